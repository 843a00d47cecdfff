/-
  A part of the proof of YtkjhclknbkleoaaGreat: texts M11, M11b, G4, M12, M13, G5, M14, M15, G6, M16, M17, G7. No conditions.
-/
import Derived.Test.YtkjhclknbkleoaaGreatT07
import Derived.KernelRfl
set_option maxRecDepth 20000
namespace Go.X

/-! ### what is left of a number, divided by the prime -/

theorem stA {x y z : Int} (hy : y = x % 4294967296) (hz : z = x / 4294967296) : y + 4294967296 * z = x := by omega
theorem stY {x y z K : Int} (hy : y = x) (hz : z = x / 4294967296) (hb : 0 ≤ x ∧ x ≤ K) (hK : K < 4294967296) : y + 4294967296 * z = x := by omega
theorem shA {a p q : Int} (hq : q = (a * 2) % 4294967296) (hp : p = a / 2147483648) : q + 4294967296 * p = 2 * a := by omega
theorem shB {a p q K : Int} (hq : q = a * 2) (hp : p = a / 2147483648) (hb : 0 ≤ q ∧ q ≤ K) (hK : K < 4294967296) : q + 4294967296 * p = 2 * a := by omega

theorem cl {y z c x t : Int} {ys ts : List Int} (s : y + 4294967296 * z = x) (e : x = c + t) (h : ofD 4294967296 ys = z + ofD 4294967296 ts) : ofD 4294967296 (y :: ys) = c + ofD 4294967296 (t :: ts) := by
  show y + 4294967296 * ofD 4294967296 ys = c + (t + 4294967296 * ofD 4294967296 ts)
  rw [h]; omega

theorem cl0 {z : Int} {K : Int} (hb : 0 ≤ z ∧ z ≤ K) (hK : K = 0) : ofD 4294967296 [] = z + ofD 4294967296 [] := by
  show (0 : Int) = z + 0; omega

theorem hl {p q p' a h : Int} {hs as : List Int} (hh : h = p + q) (e : q + 4294967296 * p' = 2 * a) (r : ofD 4294967296 hs = p' + 2 * ofD 4294967296 as) : ofD 4294967296 (h :: hs) = p + 2 * ofD 4294967296 (a :: as) := by
  show h + 4294967296 * ofD 4294967296 hs = p + 2 * (a + 4294967296 * ofD 4294967296 as)
  rw [r]; omega

theorem hl0 (p : Int) : ofD 4294967296 [p] = p + 2 * ofD 4294967296 [] := by
  show p + 4294967296 * 0 = p + 2 * 0; omega

theorem tz : ∀ n : Nat, ofD 4294967296 (List.replicate n 0) = 0
  | 0 => rfl
  | n + 1 => by show 0 + 4294967296 * ofD 4294967296 (List.replicate n 0) = 0; rw [tz n]; rfl

theorem ofD_19 (b : Int) : ∀ l : List (Int × Int), ofD b (l.map fun p => p.1 + 19 * p.2) = ofD b (l.map Prod.fst) + 19 * ofD b (l.map Prod.snd)
  | [] => rfl
  | p :: l => by
    show p.1 + 19 * p.2 + b * ofD b (l.map fun p => p.1 + 19 * p.2) = (p.1 + b * ofD b (l.map Prod.fst)) + 19 * (p.2 + b * ofD b (l.map Prod.snd))
    rw [ofD_19 b l]
    generalize ofD b (l.map Prod.fst) = y
    generalize ofD b (l.map Prod.snd) = z
    grind

theorem fold_sum {O a0 a1 a2 a3 a4 a5 a6 a7 l7 p7 h0 h1 h2 h3 h4 h5 h6 h7 h8 : Int} {U : List Int}
    (hO : O = 0 + ofD 4294967296 ([(a0, h0), (a1, h1), (a2, h2), (a3, h3), (a4, h4), (a5, h5), (a6, h6), (l7, h7), (0, h8), (0, 0), (0, 0), (0, 0), (0, 0), (0, 0), (0, 0), (0, 0)].map fun p => p.1 + 19 * p.2))
    (hH : ofD 4294967296 [h0, h1, h2, h3, h4, h5, h6, h7, h8] = p7 + 2 * ofD 4294967296 U) (hl7 : l7 = a7 % 2147483648) (hp7 : p7 = a7 / 2147483648) :
    O = ofD 4294967296 (a0 :: a1 :: a2 :: a3 :: a4 :: a5 :: a6 :: a7 :: U) - 57896044618658097711785492504343953926634992332820282019728792003956564819968 * (a7 / 2147483648 + 2 * ofD 4294967296 U) + 19 * (a7 / 2147483648 + 2 * ofD 4294967296 U) := by
  rw [ofD_19] at hO
  have e1 : ofD 4294967296 ([(a0, h0), (a1, h1), (a2, h2), (a3, h3), (a4, h4), (a5, h5), (a6, h6), (l7, h7), (0, h8), (0, 0), (0, 0), (0, 0), (0, 0), (0, 0), (0, 0), (0, 0)].map Prod.snd) = ofD 4294967296 [h0, h1, h2, h3, h4, h5, h6, h7, h8] + 4294967296 ^ 9 * ofD 4294967296 (List.replicate 7 0) :=
    ofD_append 4294967296 [h0, h1, h2, h3, h4, h5, h6, h7, h8] (List.replicate 7 0)
  have e2 : ofD 4294967296 ([(a0, h0), (a1, h1), (a2, h2), (a3, h3), (a4, h4), (a5, h5), (a6, h6), (l7, h7), (0, h8), (0, 0), (0, 0), (0, 0), (0, 0), (0, 0), (0, 0), (0, 0)].map Prod.fst) = ofD 4294967296 [a0, a1, a2, a3, a4, a5, a6] + 4294967296 ^ 7 * (l7 + 4294967296 * ofD 4294967296 (List.replicate 8 0)) :=
    ofD_append 4294967296 [a0, a1, a2, a3, a4, a5, a6] (l7 :: List.replicate 8 0)
  have e3 : ofD 4294967296 (a0 :: a1 :: a2 :: a3 :: a4 :: a5 :: a6 :: a7 :: U) = ofD 4294967296 [a0, a1, a2, a3, a4, a5, a6] + 4294967296 ^ 7 * (a7 + 4294967296 * ofD 4294967296 U) :=
    ofD_append 4294967296 [a0, a1, a2, a3, a4, a5, a6] (a7 :: U)
  rw [e1, e2, tz, tz, hH] at hO
  rw [hO, e3]
  generalize ofD 4294967296 [a0, a1, a2, a3, a4, a5, a6] = L
  generalize ofD 4294967296 U = u
  omega

theorem fold_r0 {v : Nat → Int} {T : Prop} (he : FE0 v T)
    (b101 : 0 ≤ v 101 ∧ v 101 ≤ 38)
    (b104 : 0 ≤ v 104 ∧ v 104 ≤ 0)
    (b107 : 0 ≤ v 107 ∧ v 107 ≤ 0)
    (b110 : 0 ≤ v 110 ∧ v 110 ≤ 0)
    (b113 : 0 ≤ v 113 ∧ v 113 ≤ 0)
    (b116 : 0 ≤ v 116 ∧ v 116 ≤ 0)
    (b119 : 0 ≤ v 119 ∧ v 119 ≤ 0)
    (b122 : 0 ≤ v 122 ∧ v 122 ≤ 0)
    (b124 : 0 ≤ v 124 ∧ v 124 ≤ 0)
    : (ofD 4294967296 [v 47, v 54, v 61, v 68, v 75, v 82, v 89, v 96, v 102, v 105, v 108, v 111, v 114, v 117, v 120, v 123] = ofD 4294967296 [v 0, v 1, v 2, v 3, v 4, v 5, v 6, v 7, v 8, v 9, v 10, v 11, v 12, v 13, v 14, v 15] - 57896044618658097711785492504343953926634992332820282019728792003956564819968 * (v 7 / 2147483648 + 2 * ofD 4294967296 [v 8, v 9, v 10, v 11, v 12, v 13, v 14, v 15]) + 19 * (v 7 / 2147483648 + 2 * ofD 4294967296 [v 8, v 9, v 10, v 11, v 12, v 13, v 14, v 15])) ∧ T := by
  obtain ⟨h16, h17, h18, h19, h20, h21, h22, h23, h24, h25, h26, h27, h28, h29, h30, h31, h32, h33, h34, h35, h36, h37, h38, h39, h40, h41, h42, h43, h44, h45, h46, h47, h48, h49, h50, h51, h52, h53, h54, h55, h56, h57, h58, h59, h60, h61, h62, h63, h64, h65, h66, h67, h68, h69, h70, h71, h72, h73, h74, h75, h76, h77, h78, h79, h80, h81, h82, h83, h84, h85, h86, h87, h88, h89, h90, h91, h92, h93, h94, h95, h96, h97, h98, h99, h100, h101, h102, h103, h104, h105, h106, h107, h108, h109, h110, h111, h112, h113, h114, h115, h116, h117, h118, h119, h120, h121, h122, h123, h124, hT⟩ := he
  refine ⟨?_, hT⟩
  have hO : ofD 4294967296 [v 47, v 54, v 61, v 68, v 75, v 82, v 89, v 96, v 102, v 105, v 108, v 111, v 114, v 117, v 120, v 123] = 0 + ofD 4294967296 ([(v 0, v 18), (v 1, v 21), (v 2, v 24), (v 3, v 27), (v 4, v 30), (v 5, v 33), (v 6, v 36), (v 41, v 39), (0, v 40), (0, 0), (0, 0), (0, 0), (0, 0), (0, 0), (0, 0), (0, 0)].map fun p => p.1 + 19 * p.2) :=
    (cl (t := v 0 + 19 * v 18) (stA h47 h48) (by rw [h46, h45, h44, h43, h42]) (cl (t := v 1 + 19 * v 21) (stA h54 h55) (by rw [h53, h52, h51, h50, h49]) (cl (t := v 2 + 19 * v 24) (stA h61 h62) (by rw [h60, h59, h58, h57, h56]) (cl (t := v 3 + 19 * v 27) (stA h68 h69) (by rw [h67, h66, h65, h64, h63]) (cl (t := v 4 + 19 * v 30) (stA h75 h76) (by rw [h74, h73, h72, h71, h70]) (cl (t := v 5 + 19 * v 33) (stA h82 h83) (by rw [h81, h80, h79, h78, h77]) (cl (t := v 6 + 19 * v 36) (stA h89 h90) (by rw [h88, h87, h86, h85, h84]) (cl (t := v 41 + 19 * v 39) (stA h96 h97) (by rw [h95, h94, h93, h92, h91]) (cl (t := 0 + 19 * v 40) (stY h102 h103 b101 (by decide)) (by rw [h101, h100, h99, h98]) (cl (t := 0 + 19 * 0) (stY h105 h106 b104 (by decide)) (by rw [h104]; rfl) (cl (t := 0 + 19 * 0) (stY h108 h109 b107 (by decide)) (by rw [h107]; rfl) (cl (t := 0 + 19 * 0) (stY h111 h112 b110 (by decide)) (by rw [h110]; rfl) (cl (t := 0 + 19 * 0) (stY h114 h115 b113 (by decide)) (by rw [h113]; rfl) (cl (t := 0 + 19 * 0) (stY h117 h118 b116 (by decide)) (by rw [h116]; rfl) (cl (t := 0 + 19 * 0) (stY h120 h121 b119 (by decide)) (by rw [h119]; rfl) (cl (t := 0 + 19 * 0) (stY h123 h124 b122 (by decide)) (by rw [h122]; rfl) (cl0 b124 rfl)))))))))))))))))
  have hH : ofD 4294967296 [v 18, v 21, v 24, v 27, v 30, v 33, v 36, v 39, v 40] = v 16 + 2 * ofD 4294967296 [v 8, v 9, v 10, v 11, v 12, v 13, v 14, v 15] :=
    (hl h18 (shA h17 h19) (hl h21 (shA h20 h22) (hl h24 (shA h23 h25) (hl h27 (shA h26 h28) (hl h30 (shA h29 h31) (hl h33 (shA h32 h34) (hl h36 (shA h35 h37) (hl h39 (shA h38 h40) (hl0 _)))))))))
  exact fold_sum hO hH h41 h16

theorem fold_r1 {v : Nat → Int} {T : Prop} (he : FE1 v T)
    (b126 : 0 ≤ v 126 ∧ v 126 ≤ 76)
    (b129 : 0 ≤ v 129 ∧ v 129 ≤ 0)
    (b132 : 0 ≤ v 132 ∧ v 132 ≤ 0)
    (b135 : 0 ≤ v 135 ∧ v 135 ≤ 0)
    (b138 : 0 ≤ v 138 ∧ v 138 ≤ 0)
    (b141 : 0 ≤ v 141 ∧ v 141 ≤ 0)
    (b144 : 0 ≤ v 144 ∧ v 144 ≤ 0)
    (b147 : 0 ≤ v 147 ∧ v 147 ≤ 0)
    (b204 : 0 ≤ v 204 ∧ v 204 ≤ 2147483648)
    (b210 : 0 ≤ v 210 ∧ v 210 ≤ 0)
    (b213 : 0 ≤ v 213 ∧ v 213 ≤ 0)
    (b216 : 0 ≤ v 216 ∧ v 216 ≤ 0)
    (b219 : 0 ≤ v 219 ∧ v 219 ≤ 0)
    (b222 : 0 ≤ v 222 ∧ v 222 ≤ 0)
    (b225 : 0 ≤ v 225 ∧ v 225 ≤ 0)
    (b228 : 0 ≤ v 228 ∧ v 228 ≤ 0)
    (b231 : 0 ≤ v 231 ∧ v 231 ≤ 0)
    (b233 : 0 ≤ v 233 ∧ v 233 ≤ 0)
    : (ofD 4294967296 [v 156, v 163, v 170, v 177, v 184, v 191, v 198, v 205, v 211, v 214, v 217, v 220, v 223, v 226, v 229, v 232] = ofD 4294967296 [v 47, v 54, v 61, v 68, v 75, v 82, v 89, v 96, v 102, v 105, v 108, v 111, v 114, v 117, v 120, v 123] - 57896044618658097711785492504343953926634992332820282019728792003956564819968 * (v 96 / 2147483648 + 2 * ofD 4294967296 [v 102, v 105, v 108, v 111, v 114, v 117, v 120, v 123]) + 19 * (v 96 / 2147483648 + 2 * ofD 4294967296 [v 102, v 105, v 108, v 111, v 114, v 117, v 120, v 123])) ∧ T := by
  obtain ⟨h125, h126, h127, h128, h129, h130, h131, h132, h133, h134, h135, h136, h137, h138, h139, h140, h141, h142, h143, h144, h145, h146, h147, h148, h149, h150, h151, h152, h153, h154, h155, h156, h157, h158, h159, h160, h161, h162, h163, h164, h165, h166, h167, h168, h169, h170, h171, h172, h173, h174, h175, h176, h177, h178, h179, h180, h181, h182, h183, h184, h185, h186, h187, h188, h189, h190, h191, h192, h193, h194, h195, h196, h197, h198, h199, h200, h201, h202, h203, h204, h205, h206, h207, h208, h209, h210, h211, h212, h213, h214, h215, h216, h217, h218, h219, h220, h221, h222, h223, h224, h225, h226, h227, h228, h229, h230, h231, h232, h233, hT⟩ := he
  refine ⟨?_, hT⟩
  have hO : ofD 4294967296 [v 156, v 163, v 170, v 177, v 184, v 191, v 198, v 205, v 211, v 214, v 217, v 220, v 223, v 226, v 229, v 232] = 0 + ofD 4294967296 ([(v 47, v 127), (v 54, v 130), (v 61, v 133), (v 68, v 136), (v 75, v 139), (v 82, v 142), (v 89, v 145), (v 150, v 148), (0, v 149), (0, 0), (0, 0), (0, 0), (0, 0), (0, 0), (0, 0), (0, 0)].map fun p => p.1 + 19 * p.2) :=
    (cl (t := v 47 + 19 * v 127) (stA h156 h157) (by rw [h155, h154, h153, h152, h151]) (cl (t := v 54 + 19 * v 130) (stA h163 h164) (by rw [h162, h161, h160, h159, h158]) (cl (t := v 61 + 19 * v 133) (stA h170 h171) (by rw [h169, h168, h167, h166, h165]) (cl (t := v 68 + 19 * v 136) (stA h177 h178) (by rw [h176, h175, h174, h173, h172]) (cl (t := v 75 + 19 * v 139) (stA h184 h185) (by rw [h183, h182, h181, h180, h179]) (cl (t := v 82 + 19 * v 142) (stA h191 h192) (by rw [h190, h189, h188, h187, h186]) (cl (t := v 89 + 19 * v 145) (stA h198 h199) (by rw [h197, h196, h195, h194, h193]) (cl (t := v 150 + 19 * v 148) (stY h205 h206 b204 (by decide)) (by rw [h204, h203, h202, h201, h200]) (cl (t := 0 + 19 * v 149) (stY h211 h212 b210 (by decide)) (by rw [h210, h209, h208, h207]) (cl (t := 0 + 19 * 0) (stY h214 h215 b213 (by decide)) (by rw [h213]; rfl) (cl (t := 0 + 19 * 0) (stY h217 h218 b216 (by decide)) (by rw [h216]; rfl) (cl (t := 0 + 19 * 0) (stY h220 h221 b219 (by decide)) (by rw [h219]; rfl) (cl (t := 0 + 19 * 0) (stY h223 h224 b222 (by decide)) (by rw [h222]; rfl) (cl (t := 0 + 19 * 0) (stY h226 h227 b225 (by decide)) (by rw [h225]; rfl) (cl (t := 0 + 19 * 0) (stY h229 h230 b228 (by decide)) (by rw [h228]; rfl) (cl (t := 0 + 19 * 0) (stY h232 h233 b231 (by decide)) (by rw [h231]; rfl) (cl0 b233 rfl)))))))))))))))))
  have hH : ofD 4294967296 [v 127, v 130, v 133, v 136, v 139, v 142, v 145, v 148, v 149] = v 125 + 2 * ofD 4294967296 [v 102, v 105, v 108, v 111, v 114, v 117, v 120, v 123] :=
    (hl h127 (shB h126 h128 b126 (by decide)) (hl h130 (shB h129 h131 b129 (by decide)) (hl h133 (shB h132 h134 b132 (by decide)) (hl h136 (shB h135 h137 b135 (by decide)) (hl h139 (shB h138 h140 b138 (by decide)) (hl h142 (shB h141 h143 b141 (by decide)) (hl h145 (shB h144 h146 b144 (by decide)) (hl h148 (shB h147 h149 b147 (by decide)) (hl0 _)))))))))
  exact fold_sum hO hH h150 h125

theorem fold_r2 {v : Nat → Int} {T : Prop} (he : FE2 v T)
    (b235 : 0 ≤ v 235 ∧ v 235 ≤ 0)
    (b238 : 0 ≤ v 238 ∧ v 238 ≤ 0)
    (b241 : 0 ≤ v 241 ∧ v 241 ≤ 0)
    (b244 : 0 ≤ v 244 ∧ v 244 ≤ 0)
    (b247 : 0 ≤ v 247 ∧ v 247 ≤ 0)
    (b250 : 0 ≤ v 250 ∧ v 250 ≤ 0)
    (b253 : 0 ≤ v 253 ∧ v 253 ≤ 0)
    (b256 : 0 ≤ v 256 ∧ v 256 ≤ 0)
    (b313 : 0 ≤ v 313 ∧ v 313 ≤ 2147483648)
    (b319 : 0 ≤ v 319 ∧ v 319 ≤ 0)
    (b322 : 0 ≤ v 322 ∧ v 322 ≤ 0)
    (b325 : 0 ≤ v 325 ∧ v 325 ≤ 0)
    (b328 : 0 ≤ v 328 ∧ v 328 ≤ 0)
    (b331 : 0 ≤ v 331 ∧ v 331 ≤ 0)
    (b334 : 0 ≤ v 334 ∧ v 334 ≤ 0)
    (b337 : 0 ≤ v 337 ∧ v 337 ≤ 0)
    (b340 : 0 ≤ v 340 ∧ v 340 ≤ 0)
    (b342 : 0 ≤ v 342 ∧ v 342 ≤ 0)
    : (ofD 4294967296 [v 265, v 272, v 279, v 286, v 293, v 300, v 307, v 314, v 320, v 323, v 326, v 329, v 332, v 335, v 338, v 341] = ofD 4294967296 [v 156, v 163, v 170, v 177, v 184, v 191, v 198, v 205, v 211, v 214, v 217, v 220, v 223, v 226, v 229, v 232] - 57896044618658097711785492504343953926634992332820282019728792003956564819968 * (v 205 / 2147483648 + 2 * ofD 4294967296 [v 211, v 214, v 217, v 220, v 223, v 226, v 229, v 232]) + 19 * (v 205 / 2147483648 + 2 * ofD 4294967296 [v 211, v 214, v 217, v 220, v 223, v 226, v 229, v 232])) ∧ T := by
  obtain ⟨h234, h235, h236, h237, h238, h239, h240, h241, h242, h243, h244, h245, h246, h247, h248, h249, h250, h251, h252, h253, h254, h255, h256, h257, h258, h259, h260, h261, h262, h263, h264, h265, h266, h267, h268, h269, h270, h271, h272, h273, h274, h275, h276, h277, h278, h279, h280, h281, h282, h283, h284, h285, h286, h287, h288, h289, h290, h291, h292, h293, h294, h295, h296, h297, h298, h299, h300, h301, h302, h303, h304, h305, h306, h307, h308, h309, h310, h311, h312, h313, h314, h315, h316, h317, h318, h319, h320, h321, h322, h323, h324, h325, h326, h327, h328, h329, h330, h331, h332, h333, h334, h335, h336, h337, h338, h339, h340, h341, h342, hT⟩ := he
  refine ⟨?_, hT⟩
  have hO : ofD 4294967296 [v 265, v 272, v 279, v 286, v 293, v 300, v 307, v 314, v 320, v 323, v 326, v 329, v 332, v 335, v 338, v 341] = 0 + ofD 4294967296 ([(v 156, v 236), (v 163, v 239), (v 170, v 242), (v 177, v 245), (v 184, v 248), (v 191, v 251), (v 198, v 254), (v 259, v 257), (0, v 258), (0, 0), (0, 0), (0, 0), (0, 0), (0, 0), (0, 0), (0, 0)].map fun p => p.1 + 19 * p.2) :=
    (cl (t := v 156 + 19 * v 236) (stA h265 h266) (by rw [h264, h263, h262, h261, h260]) (cl (t := v 163 + 19 * v 239) (stA h272 h273) (by rw [h271, h270, h269, h268, h267]) (cl (t := v 170 + 19 * v 242) (stA h279 h280) (by rw [h278, h277, h276, h275, h274]) (cl (t := v 177 + 19 * v 245) (stA h286 h287) (by rw [h285, h284, h283, h282, h281]) (cl (t := v 184 + 19 * v 248) (stA h293 h294) (by rw [h292, h291, h290, h289, h288]) (cl (t := v 191 + 19 * v 251) (stA h300 h301) (by rw [h299, h298, h297, h296, h295]) (cl (t := v 198 + 19 * v 254) (stA h307 h308) (by rw [h306, h305, h304, h303, h302]) (cl (t := v 259 + 19 * v 257) (stY h314 h315 b313 (by decide)) (by rw [h313, h312, h311, h310, h309]) (cl (t := 0 + 19 * v 258) (stY h320 h321 b319 (by decide)) (by rw [h319, h318, h317, h316]) (cl (t := 0 + 19 * 0) (stY h323 h324 b322 (by decide)) (by rw [h322]; rfl) (cl (t := 0 + 19 * 0) (stY h326 h327 b325 (by decide)) (by rw [h325]; rfl) (cl (t := 0 + 19 * 0) (stY h329 h330 b328 (by decide)) (by rw [h328]; rfl) (cl (t := 0 + 19 * 0) (stY h332 h333 b331 (by decide)) (by rw [h331]; rfl) (cl (t := 0 + 19 * 0) (stY h335 h336 b334 (by decide)) (by rw [h334]; rfl) (cl (t := 0 + 19 * 0) (stY h338 h339 b337 (by decide)) (by rw [h337]; rfl) (cl (t := 0 + 19 * 0) (stY h341 h342 b340 (by decide)) (by rw [h340]; rfl) (cl0 b342 rfl)))))))))))))))))
  have hH : ofD 4294967296 [v 236, v 239, v 242, v 245, v 248, v 251, v 254, v 257, v 258] = v 234 + 2 * ofD 4294967296 [v 211, v 214, v 217, v 220, v 223, v 226, v 229, v 232] :=
    (hl h236 (shB h235 h237 b235 (by decide)) (hl h239 (shB h238 h240 b238 (by decide)) (hl h242 (shB h241 h243 b241 (by decide)) (hl h245 (shB h244 h246 b244 (by decide)) (hl h248 (shB h247 h249 b247 (by decide)) (hl h251 (shB h250 h252 b250 (by decide)) (hl h254 (shB h253 h255 b253 (by decide)) (hl h257 (shB h256 h258 b256 (by decide)) (hl0 _)))))))))
  exact fold_sum hO hH h259 h234

theorem hi_eq {a0 a1 a2 a3 a4 a5 a6 a7 : Int} {U : List Int} (h : InD 4294967296 (a0 :: a1 :: a2 :: a3 :: a4 :: a5 :: a6 :: a7 :: U)) :
    a7 / 2147483648 + 2 * ofD 4294967296 U = ofD 4294967296 (a0 :: a1 :: a2 :: a3 :: a4 :: a5 :: a6 :: a7 :: U) / 57896044618658097711785492504343953926634992332820282019728792003956564819968 := by
  have e3 : ofD 4294967296 (a0 :: a1 :: a2 :: a3 :: a4 :: a5 :: a6 :: a7 :: U) = ofD 4294967296 [a0, a1, a2, a3, a4, a5, a6] + 4294967296 ^ 7 * (a7 + 4294967296 * ofD 4294967296 U) :=
    ofD_append 4294967296 [a0, a1, a2, a3, a4, a5, a6] (a7 :: U)
  have h7 : InD 4294967296 [a0, a1, a2, a3, a4, a5, a6] := InD_left (y := a7 :: U) h
  have h8 : InD 4294967296 (a7 :: U) := InD_right (x := [a0, a1, a2, a3, a4, a5, a6]) h
  obtain ⟨l0, l1⟩ := ofD_bound (b := 4294967296) (by decide) h7
  have l1 : ofD 4294967296 [a0, a1, a2, a3, a4, a5, a6] < 4294967296 ^ 7 := l1
  have h9 := h8.1
  have h10 := h8.2.1
  rw [e3]
  generalize ofD 4294967296 [a0, a1, a2, a3, a4, a5, a6] = L at *
  generalize ofD 4294967296 U = u
  omega

def fold1 (A : Int) : Int := A % 57896044618658097711785492504343953926634992332820282019728792003956564819968 + 19 * (A / 57896044618658097711785492504343953926634992332820282019728792003956564819968)

theorem fold1_eq {A O H : Int} (h : O = A - 57896044618658097711785492504343953926634992332820282019728792003956564819968 * H + 19 * H) (hH : H = A / 57896044618658097711785492504343953926634992332820282019728792003956564819968) : O = fold1 A := by
  unfold fold1; omega

def fold3 (A : Int) : Int := fold1 (fold1 (fold1 A))

theorem fold3_val {A : Int} (h0 : 0 ≤ A) (h1 : A < 13407807929942597099574024998205846127479365820592393377723561443721764030073546976801874298166903427690031858186486050853753882811946569946433649006084096) :
    0 ≤ fold3 A ∧ fold3 A < 57896044618658097711785492504343953926634992332820282019728792003956564819968 ∧ fold3 A % 57896044618658097711785492504343953926634992332820282019728792003956564819949 = A % 57896044618658097711785492504343953926634992332820282019728792003956564819949 := by
  unfold fold3 fold1
  generalize hq : A / 57896044618658097711785492504343953926634992332820282019728792003956564819968 = q
  generalize hr : A % 57896044618658097711785492504343953926634992332820282019728792003956564819968 = r
  have e : A = r + 57896044618658097711785492504343953926634992332820282019728792003956564819968 * q := by omega
  generalize hq1 : (r + 19 * q) / 57896044618658097711785492504343953926634992332820282019728792003956564819968 = q1
  generalize hr1 : (r + 19 * q) % 57896044618658097711785492504343953926634992332820282019728792003956564819968 = r1
  have e1 : r + 19 * q = r1 + 57896044618658097711785492504343953926634992332820282019728792003956564819968 * q1 := by omega
  have b : 0 ≤ q ∧ q < 231584178474632390847141970017375815706539969331281128078915168015826259279872 := by omega
  have b1 : 0 ≤ q1 ∧ q1 ≤ 80 := by omega
  generalize hq2 : (r1 + 19 * q1) / 57896044618658097711785492504343953926634992332820282019728792003956564819968 = q2
  generalize hr2 : (r1 + 19 * q1) % 57896044618658097711785492504343953926634992332820282019728792003956564819968 = r2
  have e2 : r1 + 19 * q1 = r2 + 57896044618658097711785492504343953926634992332820282019728792003956564819968 * q2 := by omega
  have b2 : 0 ≤ q2 ∧ q2 ≤ 1 := by omega
  have e3 : A = (r2 + 19 * q2) + 57896044618658097711785492504343953926634992332820282019728792003956564819949 * (q + q1 + q2) := by omega
  refine ⟨by omega, by omega, ?_⟩
  rw [e3, Int.add_mul_emod_self_left]

theorem fold_b0 {v : Nat → Int} {T : Prop} (hb : FB0 v T) : ((0 ≤ v 101 ∧ v 101 ≤ 38) ∧ (0 ≤ v 104 ∧ v 104 ≤ 0) ∧ (0 ≤ v 107 ∧ v 107 ≤ 0) ∧ (0 ≤ v 110 ∧ v 110 ≤ 0) ∧ (0 ≤ v 113 ∧ v 113 ≤ 0) ∧ (0 ≤ v 116 ∧ v 116 ≤ 0) ∧ (0 ≤ v 119 ∧ v 119 ≤ 0) ∧ (0 ≤ v 122 ∧ v 122 ≤ 0) ∧ (0 ≤ v 124 ∧ v 124 ≤ 0)) ∧ InD 4294967296 [v 47, v 54, v 61, v 68, v 75, v 82, v 89, v 96, v 102, v 105, v 108, v 111, v 114, v 117, v 120, v 123] ∧ T := by
  obtain ⟨-, -, -, -, -, -, -, -, -, -, -, -, -, -, -, -, -, -, -, -, -, -, -, -, -, -, -, -, -, -, -, b47, -, -, -, -, -, -, b54, -, -, -, -, -, -, b61, -, -, -, -, -, -, b68, -, -, -, -, -, -, b75, -, -, -, -, -, -, b82, -, -, -, -, -, -, b89, -, -, -, -, -, -, b96, -, -, -, -, b101, b102, -, b104, b105, -, b107, b108, -, b110, b111, -, b113, b114, -, b116, b117, -, b119, b120, -, b122, b123, b124, hT⟩ := hb
  exact ⟨⟨b101, b104, b107, b110, b113, b116, b119, b122, b124⟩, ⟨b47.1, Int.lt_of_le_of_lt b47.2 (by decide), b54.1, Int.lt_of_le_of_lt b54.2 (by decide), b61.1, Int.lt_of_le_of_lt b61.2 (by decide), b68.1, Int.lt_of_le_of_lt b68.2 (by decide), b75.1, Int.lt_of_le_of_lt b75.2 (by decide), b82.1, Int.lt_of_le_of_lt b82.2 (by decide), b89.1, Int.lt_of_le_of_lt b89.2 (by decide), b96.1, Int.lt_of_le_of_lt b96.2 (by decide), b102.1, Int.lt_of_le_of_lt b102.2 (by decide), b105.1, Int.lt_of_le_of_lt b105.2 (by decide), b108.1, Int.lt_of_le_of_lt b108.2 (by decide), b111.1, Int.lt_of_le_of_lt b111.2 (by decide), b114.1, Int.lt_of_le_of_lt b114.2 (by decide), b117.1, Int.lt_of_le_of_lt b117.2 (by decide), b120.1, Int.lt_of_le_of_lt b120.2 (by decide), b123.1, Int.lt_of_le_of_lt b123.2 (by decide), trivial⟩, hT⟩

theorem fold_b1 {v : Nat → Int} {T : Prop} (hb : FB1 v T) : ((0 ≤ v 126 ∧ v 126 ≤ 76) ∧ (0 ≤ v 129 ∧ v 129 ≤ 0) ∧ (0 ≤ v 132 ∧ v 132 ≤ 0) ∧ (0 ≤ v 135 ∧ v 135 ≤ 0) ∧ (0 ≤ v 138 ∧ v 138 ≤ 0) ∧ (0 ≤ v 141 ∧ v 141 ≤ 0) ∧ (0 ≤ v 144 ∧ v 144 ≤ 0) ∧ (0 ≤ v 147 ∧ v 147 ≤ 0) ∧ (0 ≤ v 204 ∧ v 204 ≤ 2147483648) ∧ (0 ≤ v 210 ∧ v 210 ≤ 0) ∧ (0 ≤ v 213 ∧ v 213 ≤ 0) ∧ (0 ≤ v 216 ∧ v 216 ≤ 0) ∧ (0 ≤ v 219 ∧ v 219 ≤ 0) ∧ (0 ≤ v 222 ∧ v 222 ≤ 0) ∧ (0 ≤ v 225 ∧ v 225 ≤ 0) ∧ (0 ≤ v 228 ∧ v 228 ≤ 0) ∧ (0 ≤ v 231 ∧ v 231 ≤ 0) ∧ (0 ≤ v 233 ∧ v 233 ≤ 0)) ∧ InD 4294967296 [v 156, v 163, v 170, v 177, v 184, v 191, v 198, v 205, v 211, v 214, v 217, v 220, v 223, v 226, v 229, v 232] ∧ T := by
  obtain ⟨-, b126, -, -, b129, -, -, b132, -, -, b135, -, -, b138, -, -, b141, -, -, b144, -, -, b147, -, -, -, -, -, -, -, -, b156, -, -, -, -, -, -, b163, -, -, -, -, -, -, b170, -, -, -, -, -, -, b177, -, -, -, -, -, -, b184, -, -, -, -, -, -, b191, -, -, -, -, -, -, b198, -, -, -, -, -, b204, b205, -, -, -, -, b210, b211, -, b213, b214, -, b216, b217, -, b219, b220, -, b222, b223, -, b225, b226, -, b228, b229, -, b231, b232, b233, hT⟩ := hb
  exact ⟨⟨b126, b129, b132, b135, b138, b141, b144, b147, b204, b210, b213, b216, b219, b222, b225, b228, b231, b233⟩, ⟨b156.1, Int.lt_of_le_of_lt b156.2 (by decide), b163.1, Int.lt_of_le_of_lt b163.2 (by decide), b170.1, Int.lt_of_le_of_lt b170.2 (by decide), b177.1, Int.lt_of_le_of_lt b177.2 (by decide), b184.1, Int.lt_of_le_of_lt b184.2 (by decide), b191.1, Int.lt_of_le_of_lt b191.2 (by decide), b198.1, Int.lt_of_le_of_lt b198.2 (by decide), b205.1, Int.lt_of_le_of_lt b205.2 (by decide), b211.1, Int.lt_of_le_of_lt b211.2 (by decide), b214.1, Int.lt_of_le_of_lt b214.2 (by decide), b217.1, Int.lt_of_le_of_lt b217.2 (by decide), b220.1, Int.lt_of_le_of_lt b220.2 (by decide), b223.1, Int.lt_of_le_of_lt b223.2 (by decide), b226.1, Int.lt_of_le_of_lt b226.2 (by decide), b229.1, Int.lt_of_le_of_lt b229.2 (by decide), b232.1, Int.lt_of_le_of_lt b232.2 (by decide), trivial⟩, hT⟩

theorem fold_b2 {v : Nat → Int} {T : Prop} (hb : FB2 v T) : ((0 ≤ v 235 ∧ v 235 ≤ 0) ∧ (0 ≤ v 238 ∧ v 238 ≤ 0) ∧ (0 ≤ v 241 ∧ v 241 ≤ 0) ∧ (0 ≤ v 244 ∧ v 244 ≤ 0) ∧ (0 ≤ v 247 ∧ v 247 ≤ 0) ∧ (0 ≤ v 250 ∧ v 250 ≤ 0) ∧ (0 ≤ v 253 ∧ v 253 ≤ 0) ∧ (0 ≤ v 256 ∧ v 256 ≤ 0) ∧ (0 ≤ v 313 ∧ v 313 ≤ 2147483648) ∧ (0 ≤ v 319 ∧ v 319 ≤ 0) ∧ (0 ≤ v 322 ∧ v 322 ≤ 0) ∧ (0 ≤ v 325 ∧ v 325 ≤ 0) ∧ (0 ≤ v 328 ∧ v 328 ≤ 0) ∧ (0 ≤ v 331 ∧ v 331 ≤ 0) ∧ (0 ≤ v 334 ∧ v 334 ≤ 0) ∧ (0 ≤ v 337 ∧ v 337 ≤ 0) ∧ (0 ≤ v 340 ∧ v 340 ≤ 0) ∧ (0 ≤ v 342 ∧ v 342 ≤ 0)) ∧ InD 4294967296 [v 265, v 272, v 279, v 286, v 293, v 300, v 307, v 314, v 320, v 323, v 326, v 329, v 332, v 335, v 338, v 341] ∧ T := by
  obtain ⟨-, b235, -, -, b238, -, -, b241, -, -, b244, -, -, b247, -, -, b250, -, -, b253, -, -, b256, -, -, -, -, -, -, -, -, b265, -, -, -, -, -, -, b272, -, -, -, -, -, -, b279, -, -, -, -, -, -, b286, -, -, -, -, -, -, b293, -, -, -, -, -, -, b300, -, -, -, -, -, -, b307, -, -, -, -, -, b313, b314, -, -, -, -, b319, b320, -, b322, b323, -, b325, b326, -, b328, b329, -, b331, b332, -, b334, b335, -, b337, b338, -, b340, b341, b342, hT⟩ := hb
  exact ⟨⟨b235, b238, b241, b244, b247, b250, b253, b256, b313, b319, b322, b325, b328, b331, b334, b337, b340, b342⟩, ⟨b265.1, Int.lt_of_le_of_lt b265.2 (by decide), b272.1, Int.lt_of_le_of_lt b272.2 (by decide), b279.1, Int.lt_of_le_of_lt b279.2 (by decide), b286.1, Int.lt_of_le_of_lt b286.2 (by decide), b293.1, Int.lt_of_le_of_lt b293.2 (by decide), b300.1, Int.lt_of_le_of_lt b300.2 (by decide), b307.1, Int.lt_of_le_of_lt b307.2 (by decide), b314.1, Int.lt_of_le_of_lt b314.2 (by decide), b320.1, Int.lt_of_le_of_lt b320.2 (by decide), b323.1, Int.lt_of_le_of_lt b323.2 (by decide), b326.1, Int.lt_of_le_of_lt b326.2 (by decide), b329.1, Int.lt_of_le_of_lt b329.2 (by decide), b332.1, Int.lt_of_le_of_lt b332.2 (by decide), b335.1, Int.lt_of_le_of_lt b335.2 (by decide), b338.1, Int.lt_of_le_of_lt b338.2 (by decide), b341.1, Int.lt_of_le_of_lt b341.2 (by decide), trivial⟩, hT⟩

theorem fold_words {v : Nat → Int} {T T2 : Prop} (he : FE0 v (FE1 v (FE2 v T))) (hb : FB0 v (FB1 v (FB2 v T2))) (h0 : InD 4294967296 (seg v 0 16)) :
    ofD 4294967296 [v 265, v 272, v 279, v 286, v 293, v 300, v 307, v 314, v 320, v 323, v 326, v 329, v 332, v 335, v 338, v 341] = fold3 (ofD 4294967296 (seg v 0 16)) ∧ InD 4294967296 [v 265, v 272, v 279, v 286, v 293, v 300, v 307, v 314, v 320, v 323, v 326, v 329, v 332, v 335, v 338, v 341] ∧ T := by
  obtain ⟨n0, d0, hb⟩ := fold_b0 hb
  obtain ⟨b101, b104, b107, b110, b113, b116, b119, b122, b124⟩ := n0
  obtain ⟨e0, he⟩ := fold_r0 he b101 b104 b107 b110 b113 b116 b119 b122 b124
  have e0 := fold1_eq e0 (hi_eq h0)
  obtain ⟨n1, d1, hb⟩ := fold_b1 hb
  obtain ⟨b126, b129, b132, b135, b138, b141, b144, b147, b204, b210, b213, b216, b219, b222, b225, b228, b231, b233⟩ := n1
  obtain ⟨e1, he⟩ := fold_r1 he b126 b129 b132 b135 b138 b141 b144 b147 b204 b210 b213 b216 b219 b222 b225 b228 b231 b233
  have e1 := fold1_eq e1 (hi_eq d0)
  obtain ⟨n2, d2, hb⟩ := fold_b2 hb
  obtain ⟨b235, b238, b241, b244, b247, b250, b253, b256, b313, b319, b322, b325, b328, b331, b334, b337, b340, b342⟩ := n2
  obtain ⟨e2, he⟩ := fold_r2 he b235 b238 b241 b244 b247 b250 b253 b256 b313 b319 b322 b325 b328 b331 b334 b337 b340 b342
  have e2 := fold1_eq e2 (hi_eq d1)
  refine ⟨?_, d2, he⟩
  rw [e2, e1, e0]; rfl

theorem P_ofD : ofD 4294967296 [4294967277, 4294967295, 4294967295, 4294967295, 4294967295, 4294967295, 4294967295, 2147483647, 0, 0, 0, 0, 0, 0, 0, 0] = 57896044618658097711785492504343953926634992332820282019728792003956564819949 := by kernel_rfl

theorem Less_app {a b : List Int} (ha : a.length = 16) : (s_Less.f (a ++ b)).getD 0 0 = if ofD 4294967296 a < ofD 4294967296 b then 1 else 0 := by
  show (f_Less (a ++ b)).getD 0 0 = _
  unfold f_Less
  rw [List.take_left' ha, List.drop_left' ha]
  rfl

def f_fold (xs : List Int) : List Int := toD 4294967296 16 (ofD 4294967296 xs % 57896044618658097711785492504343953926634992332820282019728792003956564819949)

theorem fold_bo (n : Int) : InB (WB 16) (toD 4294967296 16 n) := InD_InB (b := 4294967296) (toD_len _ _ _) (toD_in (by decide) _ _)

def s_fold : Sem := Sem.of f_fold bi_fold (WB 16) (fun _ _ => fold_bo _)

theorem P_in : InB (WB 16) [4294967277, 4294967295, 4294967295, 4294967295, 4294967295, 4294967295, 4294967295, 2147483647, 0, 0, 0, 0, 0, 0, 0, 0] := fold_bo 57896044618658097711785492504343953926634992332820282019728792003956564819949

end Go.X

set_option maxRecDepth 20000
namespace Go.X
theorem cov_fold : Covered l_fold s_fold q_fold := by
  intro xs hx
  have hx16 : InB (WB 16) xs := hx
  have hd : InD 4294967296 xs := InB_InD (b := 4294967296) (n := 16) hx16
  have hl : xs.length = 16 := hx16.len
  obtain ⟨A0, A1⟩ := ofD_bound (b := 4294967296) (by decide) hd
  rw [hl] at A1
  obtain ⟨r0, r1, r2⟩ := fold3_val A0 A1
  have hs : s_fold.f xs = f_fold xs := rfl
  by_cases hlt : fold3 (ofD 4294967296 xs) < 57896044618658097711785492504343953926634992332820282019728792003956564819949
  · obtain ⟨v, hv, hin, he, hb, hc, ho⟩ := E_fold_0 xs hx
    obtain ⟨e, d, h343, h344⟩ := fold_words he hb (by rw [hin]; exact hd)
    clear he hb
    rw [hin] at e
    have h343 := h343.trans (Less_app (a := [v 265, v 272, v 279, v 286, v 293, v 300, v 307, v 314, v 320, v 323, v 326, v 329, v 332, v 335, v 338, v 341]) (b := [4294967277, 4294967295, 4294967295, 4294967295, 4294967295, 4294967295, 4294967295, 2147483647, 0, 0, 0, 0, 0, 0, 0, 0]) rfl)
    rw [e, P_ofD, if_pos hlt] at h343
    rw [h343, if_pos (by decide)] at h344
    refine ⟨q_fold_0, List.mem_of_getElem? (show q_fold[0]? = some q_fold_0 from rfl), hx, ?_, ?_⟩
    · show CondHold (vals l_fold g_fold_0 xs) _
      rw [hv, hc, h344]; exact ⟨rfl, trivial⟩
    · show _ = outs_fold_0.map (A.ev (vals l_fold g_fold_0 xs))
      rw [hv, ho, hs]
      refine (toD_congr (by decide) d rfl ⟨0, ?_⟩).symm
      rw [e, Int.mul_zero, Int.add_zero, ← r2, Int.emod_eq_of_lt r0 hlt]
  · obtain ⟨v, hv, hin, he, hb, hc, ho⟩ := E_fold_1 xs hx
    obtain ⟨e, d, h343, h344, h345, h361, h362⟩ := fold_words he hb (by rw [hin]; exact hd)
    clear he hb
    rw [hin] at e
    have h343 := h343.trans (Less_app (a := [v 265, v 272, v 279, v 286, v 293, v 300, v 307, v 314, v 320, v 323, v 326, v 329, v 332, v 335, v 338, v 341]) (b := [4294967277, 4294967295, 4294967295, 4294967295, 4294967295, 4294967295, 4294967295, 2147483647, 0, 0, 0, 0, 0, 0, 0, 0]) rfl)
    rw [e, P_ofD, if_neg hlt] at h343
    rw [h343, if_neg (by decide)] at h344
    have hm := Minus_val ([v 265, v 272, v 279, v 286, v 293, v 300, v 307, v 314, v 320, v 323, v 326, v 329, v 332, v 335, v 338, v 341] ++ [4294967277, 4294967295, 4294967295, 4294967295, 4294967295, 4294967295, 4294967295, 2147483647, 0, 0, 0, 0, 0, 0, 0, 0]) (InB.append (a := WB 16) (b := WB 16) (InD_InB (b := 4294967296) rfl d) P_in)
    rw [List.take_left' (i := 16) rfl, List.drop_left' (i := 16) rfl, e, P_ofD] at hm
    have ea : [v 265, v 272, v 279, v 286, v 293, v 300, v 307, v 314, v 320, v 323, v 326, v 329, v 332, v 335, v 338, v 341] ++ [4294967277, 4294967295, 4294967295, 4294967295, 4294967295, 4294967295, 4294967295, 2147483647, 0, 0, 0, 0, 0, 0, 0, 0] = [v 265, v 272, v 279, v 286, v 293, v 300, v 307, v 314, v 320, v 323, v 326, v 329, v 332, v 335, v 338, v 341, 4294967277, 4294967295, 4294967295, 4294967295, 4294967295, 4294967295, 4294967295, 2147483647, 0, 0, 0, 0, 0, 0, 0, 0] := rfl
    rw [ea] at hm
    rw [hm, gets_all (toD_len _ _ _)] at h345
    have e2 : ofD 4294967296 (seg v 345 16) = fold3 (ofD 4294967296 xs) - 57896044618658097711785492504343953926634992332820282019728792003956564819949 := by
      rw [h345, ofD_toD (by decide)]
      exact Int.emod_eq_of_lt (by omega) (by omega)
    rw [Less_app (seg_len _ _ _), e2, P_ofD, if_pos (by omega)] at h361
    rw [h361, if_pos (by decide)] at h362
    refine ⟨q_fold_1, List.mem_of_getElem? (show q_fold[1]? = some q_fold_1 from rfl), hx, ?_, ?_⟩
    · show CondHold (vals l_fold g_fold_1 xs) _
      rw [hv, hc, h344, h362]; exact ⟨rfl, rfl, trivial⟩
    · show _ = outs_fold_1.map (A.ev (vals l_fold g_fold_1 xs))
      rw [hv, ho, hs, h345]
      unfold f_fold
      congr 1
      omega

end Go.X

namespace Go.X
noncomputable section
abbrev l_Field : List Sem := [s_fold]
def g_Field : List (Nat × Ins) := (apps 0 (vs 0 16) 16 16)
def outs_Field : List A := (vs 16 16)
def s_Field : Sem := Sem.st l_Field g_Field 16 32 outs_Field (bs 16 0 4294967295) (bs 16 0 4294967295) (by kernel_rfl)

theorem E_Field (xs : List Int) (hx : InB (bs 16 0 4294967295) xs) : ∃ v : Nat → Int, vals l_Field g_Field xs = v ∧ seg v 0 16 = xs ∧ ((seg v 16 16 = gets (s_fold.f (seg v 0 16)) 0 16)) ∧ (True) ∧ s_Field.f xs = (seg v 16 16) :=
  Eq.mp (by kernel_rfl) (runE (s := s_Field) (o := outs_Field) (l := l_Field) (g := g_Field) (nin := 16) (top := 32) (by kernel_rfl) hx (by kernel_rfl))

abbrev l_FAdd : List Sem := [s_Plus, s_fold]
def g_FAdd : List (Nat × Ins) := ((apps 1 (vs 32 16) 48 16) ++ (apps 0 (vs 0 32) 32 16))
def outs_FAdd : List A := (vs 48 16)
def s_FAdd : Sem := Sem.st l_FAdd g_FAdd 32 64 outs_FAdd (bs 32 0 4294967295) (bs 16 0 4294967295) (by kernel_rfl)

theorem E_FAdd (xs : List Int) (hx : InB (bs 32 0 4294967295) xs) : ∃ v : Nat → Int, vals l_FAdd g_FAdd xs = v ∧ seg v 0 32 = xs ∧ ((seg v 32 16 = gets (s_Plus.f (seg v 0 32)) 0 16) ∧ (seg v 48 16 = gets (s_fold.f (seg v 32 16)) 0 16)) ∧ (True) ∧ s_FAdd.f xs = (seg v 48 16) :=
  Eq.mp (by kernel_rfl) (runE (s := s_FAdd) (o := outs_FAdd) (l := l_FAdd) (g := g_FAdd) (nin := 32) (top := 64) (by kernel_rfl) hx (by kernel_rfl))

abbrev l_FSub : List Sem := [s_Plus, s_Minus, s_P, s_fold]
def g_FSub : List (Nat × Ins) := ((apps 3 (vs 48 16) 64 16) ++ (apps 1 ((vs 32 16) ++ (vs 16 16)) 48 16) ++ (apps 0 (List.flatten [vs 0 16, [(.l 4294967277)], ls 4294967295 6, [(.l 2147483647)], ls 0 8]) 32 16))
def outs_FSub : List A := (vs 64 16)
def s_FSub : Sem := Sem.st l_FSub g_FSub 32 80 outs_FSub (bs 32 0 4294967295) (bs 16 0 4294967295) (by kernel_rfl)

theorem E_FSub (xs : List Int) (hx : InB (bs 32 0 4294967295) xs) : ∃ v : Nat → Int, vals l_FSub g_FSub xs = v ∧ seg v 0 32 = xs ∧ ((seg v 32 16 = gets (s_Plus.f (seg v 0 16 ++ [4294967277, 4294967295, 4294967295, 4294967295, 4294967295, 4294967295, 4294967295, 2147483647, 0, 0, 0, 0, 0, 0, 0, 0])) 0 16) ∧ (seg v 48 16 = gets (s_Minus.f (seg v 32 16 ++ seg v 16 16)) 0 16) ∧ (seg v 64 16 = gets (s_fold.f (seg v 48 16)) 0 16)) ∧ (True) ∧ s_FSub.f xs = (seg v 64 16) :=
  Eq.mp (by kernel_rfl) (runE (s := s_FSub) (o := outs_FSub) (l := l_FSub) (g := g_FSub) (nin := 32) (top := 80) (by kernel_rfl) hx (by kernel_rfl))

abbrev l_FMul : List Sem := [s_Times, s_fold]
def g_FMul : List (Nat × Ins) := ((apps 1 (vs 32 16) 48 16) ++ (apps 0 (vs 0 32) 32 16))
def outs_FMul : List A := (vs 48 16)
def s_FMul : Sem := Sem.st l_FMul g_FMul 32 64 outs_FMul (bs 32 0 4294967295) (bs 16 0 4294967295) (by kernel_rfl)

theorem E_FMul (xs : List Int) (hx : InB (bs 32 0 4294967295) xs) : ∃ v : Nat → Int, vals l_FMul g_FMul xs = v ∧ seg v 0 32 = xs ∧ ((seg v 32 16 = gets (s_Times.f (seg v 0 32)) 0 16) ∧ (seg v 48 16 = gets (s_fold.f (seg v 32 16)) 0 16)) ∧ (True) ∧ s_FMul.f xs = (seg v 48 16) :=
  Eq.mp (by kernel_rfl) (runE (s := s_FMul) (o := outs_FMul) (l := l_FMul) (g := g_FMul) (nin := 32) (top := 64) (by kernel_rfl) hx (by kernel_rfl))

abbrev l_FNeg : List Sem := [s_FSub]
def g_FNeg : List (Nat × Ins) := (apps 0 ((ls 0 16) ++ (vs 0 16)) 16 16)
def outs_FNeg : List A := (vs 16 16)
def s_FNeg : Sem := Sem.st l_FNeg g_FNeg 16 32 outs_FNeg (bs 16 0 4294967295) (bs 16 0 4294967295) (by kernel_rfl)

theorem E_FNeg (xs : List Int) (hx : InB (bs 16 0 4294967295) xs) : ∃ v : Nat → Int, vals l_FNeg g_FNeg xs = v ∧ seg v 0 16 = xs ∧ ((seg v 16 16 = gets (s_FSub.f ([0, 0, 0, 0, 0, 0, 0, 0, 0, 0, 0, 0, 0, 0, 0, 0] ++ seg v 0 16)) 0 16)) ∧ (True) ∧ s_FNeg.f xs = (seg v 16 16) :=
  Eq.mp (by kernel_rfl) (runE (s := s_FNeg) (o := outs_FNeg) (l := l_FNeg) (g := g_FNeg) (nin := 16) (top := 32) (by kernel_rfl) hx (by kernel_rfl))

abbrev l_Odd : List Sem := []
def g_Odd : List (Nat × Ins) := [(17, .op2 .eql .u32 (.v 16) (.l 1)),
  (16, .op2 .and .u32 (.v 0) (.l 1))]
def outs_Odd : List A := [(.v 17)]
def s_Odd : Sem := Sem.st l_Odd g_Odd 16 18 outs_Odd (bs 16 0 4294967295) [(0, 1)] (by kernel_rfl)

theorem E_Odd (xs : List Int) (hx : InB (bs 16 0 4294967295) xs) : ∃ v : Nat → Int, vals l_Odd g_Odd xs = v ∧ seg v 0 16 = xs ∧ ((v 16 = (v 0) % 2) ∧ (v 17 = op2 .eql .u32 (v 16) 1)) ∧ (True) ∧ s_Odd.f xs = ([v 17]) :=
  Eq.mp (by kernel_rfl) (runE (s := s_Odd) (o := outs_Odd) (l := l_Odd) (g := g_Odd) (nin := 16) (top := 18) (by kernel_rfl) hx (by kernel_rfl))

abbrev l_same32 : List Sem := []
def g_same32 : List (Nat × Ins) := [(64, .eqs true (vs 0 32) (vs 32 32))]
def outs_same32 : List A := [(.v 64)]
def s_same32 : Sem := Sem.st l_same32 g_same32 64 65 outs_same32 (bs 64 0 255) [(0, 1)] (by kernel_rfl)

theorem E_same32 (xs : List Int) (hx : InB (bs 64 0 255) xs) : ∃ v : Nat → Int, vals l_same32 g_same32 xs = v ∧ seg v 0 64 = xs ∧ ((v 64 = b2i (u8s (seg v 0 32) == u8s (seg v 32 32)))) ∧ (True) ∧ s_same32.f xs = ([v 64]) :=
  Eq.mp (by kernel_rfl) (runE (s := s_same32) (o := outs_same32) (l := l_same32) (g := g_same32) (nin := 64) (top := 65) (by kernel_rfl) hx (by kernel_rfl))

end
end Go.X

namespace Go.X

/-! ### the field of the statement -/

/-- the words of an element -/
def nF (x : Fp) : List Int := toD 4294967296 16 (x.val : Int)

theorem nF_len (x : Fp) : (nF x).length = 16 := toD_len _ _ _
theorem nF_in (x : Fp) : InB (WB 16) (nF x) := fold_bo _

theorem val_lt (x : Fp) : (0 : Int) ≤ x.val ∧ (x.val : Int) < 57896044618658097711785492504343953926634992332820282019728792003956564819949 := by
  have := x.isLt
  have e : ((pN : Nat) : Int) = p25519 := pN_int
  constructor
  · omega
  · have h : (x.val : Int) < (pN : Int) := by omega
    rw [e] at h; exact h

theorem ofD_nF (x : Fp) : ofD 4294967296 (nF x) = x.val := by
  obtain ⟨h0, h1⟩ := val_lt x
  unfold nF
  rw [ofD_toD (by decide), Int.emod_eq_of_lt h0 (by omega)]

theorem φ_of (x : Fp) : φ (x.val : Int) = x := by
  obtain ⟨h0, h1⟩ := val_lt x
  exact Fp_ext (by rw [φ_val, Int.emod_eq_of_lt h0 h1])

theorem nF_φ {n : Int} : toD 4294967296 16 (n % 57896044618658097711785492504343953926634992332820282019728792003956564819949) = nF (φ n) := by
  unfold nF
  rw [φ_val]

theorem nF_of {l : List Int} (hl : InB (WB 16) l) (h : ofD 4294967296 l < 57896044618658097711785492504343953926634992332820282019728792003956564819949) : l = nF (φ (ofD 4294967296 l)) := by
  have hd : InD 4294967296 l := InB_InD (b := 4294967296) (n := 16) hl
  obtain ⟨h0, -⟩ := ofD_bound (b := 4294967296) (by decide) hd
  have e := toD_ofD (b := 4294967296) (by decide) hd
  rw [hl.len] at e
  unfold nF
  rw [φ_val, Int.emod_eq_of_lt h0 h]
  exact e.symm

theorem fold_val (n : Int) (h0 : 0 ≤ n) (h1 : n < 13407807929942597099574024998205846127479365820592393377723561443721764030073546976801874298166903427690031858186486050853753882811946569946433649006084096) : s_fold.f (toD 4294967296 16 n) = nF (φ n) := by
  show f_fold _ = _
  unfold f_fold
  have e : n % 4294967296 ^ 16 = n := Int.emod_eq_of_lt h0 h1
  rw [ofD_toD (by decide), e, nF_φ]

theorem Field_val (xs : List Int) (hx : InB (WB 16) xs) : s_Field.f xs = nF (φ (ofD 4294967296 xs)) := by
  obtain ⟨v, -, hin, h16, -, hf⟩ := E_Field xs hx
  have e : s_fold.f xs = f_fold xs := rfl
  rw [hin, e, f_fold, nF_φ, gets_all (nF_len _)] at h16
  rw [hf, h16]

theorem take_nF (a : Fp) (b : List Int) : (nF a ++ b).take 16 = nF a := List.take_left' (nF_len a)
theorem drop_nF (a : Fp) (b : List Int) : (nF a ++ b).drop 16 = b := List.drop_left' (nF_len a)
theorem nF_in2 (x y : Fp) : InB (WB 32) (nF x ++ nF y) := InB.append (a := WB 16) (b := WB 16) (nF_in x) (nF_in y)

theorem FAdd_val (x y : Fp) : s_FAdd.f (nF x ++ nF y) = nF (x + y) := by
  obtain ⟨v, -, hin, he, -, hf⟩ := E_FAdd (nF x ++ nF y) (nF_in2 x y)
  obtain ⟨h32, h48⟩ := he
  rw [hin, Plus_val _ (nF_in2 x y), take_nF, drop_nF, ofD_nF, ofD_nF, gets_all (toD_len _ _ _)] at h32
  obtain ⟨x0, x1⟩ := val_lt x
  obtain ⟨y0, y1⟩ := val_lt y
  rw [h32, fold_val _ (by omega) (by omega), gets_all (nF_len _)] at h48
  rw [hf, h48, φ_add, φ_of, φ_of]

theorem sub_in {a b : List Int} (ha : InB (WB 16) a) (hb : InB (WB 16) b) : InB (WB 32) (a ++ b) := InB.append (a := WB 16) (b := WB 16) ha hb

theorem FSub_val (x y : Fp) : s_FSub.f (nF x ++ nF y) = nF (x - y) := by
  obtain ⟨v, -, hin, he, -, hf⟩ := E_FSub (nF x ++ nF y) (nF_in2 x y)
  obtain ⟨h32, h48, h64⟩ := he
  have s0 : seg v 0 16 = nF x := by rw [← seg_take v (show 16 ≤ 32 by decide), hin, take_nF]
  have s16 : seg v 16 16 = nF y := by
    have := seg_drop v (show 16 ≤ 32 by decide) 0
    rw [hin, drop_nF] at this
    exact this.symm
  obtain ⟨x0, x1⟩ := val_lt x
  obtain ⟨y0, y1⟩ := val_lt y
  rw [s0, Plus_val _ (sub_in (nF_in x) P_in), take_nF, drop_nF, ofD_nF, P_ofD, gets_all (toD_len _ _ _)] at h32
  rw [h32, s16, Minus_val _ (sub_in (fold_bo _) (nF_in y)), List.take_left' (toD_len _ _ _), List.drop_left' (toD_len _ _ _), ofD_nF, ofD_toD (by decide), Int.emod_eq_of_lt (by omega) (by omega), gets_all (toD_len _ _ _)] at h48
  rw [h48, fold_val _ (by omega) (by omega), gets_all (nF_len _)] at h64
  rw [hf, h64]
  have e : (x.val : Int) + 57896044618658097711785492504343953926634992332820282019728792003956564819949 - y.val = x.val - y.val - p25519 * (-1) := by
    have : p25519 = 57896044618658097711785492504343953926634992332820282019728792003956564819949 := rfl
    omega
  rw [e, φ_off, φ_sub, φ_of, φ_of]

theorem toD_split {b : Int} (hb : 0 < b) : ∀ (n m : Nat) (x : Int), toD b (n + m) x = toD b n x ++ toD b m (x / b ^ n)
  | 0, m, x => by rw [Nat.zero_add, Int.pow_zero, Int.ediv_one]; rfl
  | n + 1, m, x => by
    rw [show n + 1 + m = (n + m) + 1 from by omega]
    show x % b :: toD b (n + m) (x / b) = x % b :: (toD b n (x / b) ++ toD b m (x / b ^ (n + 1)))
    rw [toD_split hb n m, Int.ediv_ediv_of_nonneg (by omega), Int.pow_succ, Int.mul_comm]

theorem take8_nF (x : Fp) : ofD 4294967296 ((nF x).take 8) = x.val := by
  obtain ⟨x0, x1⟩ := val_lt x
  have e : nF x = toD 4294967296 8 (x.val : Int) ++ toD 4294967296 8 ((x.val : Int) / 4294967296 ^ 8) := toD_split (by decide) 8 8 _
  rw [e, List.take_left' (toD_len _ _ _), ofD_toD (by decide)]
  exact Int.emod_eq_of_lt x0 (by omega)

theorem FMul_val (x y : Fp) : s_FMul.f (nF x ++ nF y) = nF (x * y) := by
  obtain ⟨v, -, hin, he, -, hf⟩ := E_FMul (nF x ++ nF y) (nF_in2 x y)
  obtain ⟨h32, h48⟩ := he
  have t8 : (nF x ++ nF y).take 8 = (nF x).take 8 := by rw [List.take_append_of_le_length (by rw [nF_len]; decide)]
  rw [hin, Times_val _ (nF_in2 x y), t8, drop_nF, take8_nF, take8_nF, gets_all (toD_len _ _ _)] at h32
  obtain ⟨x0, x1⟩ := val_lt x
  obtain ⟨y0, y1⟩ := val_lt y
  have b0 : 0 ≤ (x.val : Int) * y.val := Int.mul_nonneg x0 y0
  have b1 : (x.val : Int) * y.val ≤ 57896044618658097711785492504343953926634992332820282019728792003956564819949 * 57896044618658097711785492504343953926634992332820282019728792003956564819949 :=
    Int.mul_le_mul (by omega) (by omega) y0 (by decide)
  rw [h32, fold_val _ b0 (Int.lt_of_le_of_lt b1 (by decide)), gets_all (nF_len _)] at h48
  rw [hf, h48, φ_mul, φ_of, φ_of]

theorem nF_zero : nF 0 = [0, 0, 0, 0, 0, 0, 0, 0, 0, 0, 0, 0, 0, 0, 0, 0] := by kernel_rfl
theorem nF_one : nF 1 = [1, 0, 0, 0, 0, 0, 0, 0, 0, 0, 0, 0, 0, 0, 0, 0] := by kernel_rfl

theorem FNeg_val (x : Fp) : s_FNeg.f (nF x) = nF (-x) := by
  obtain ⟨v, -, hin, h16, -, hf⟩ := E_FNeg (nF x) (nF_in x)
  rw [hin, ← nF_zero, FSub_val, gets_all (nF_len _)] at h16
  rw [hf, h16, show (0 : Fp) - x = -x from by grind]

theorem eql1 {a : Int} : op2 .eql .u32 a 1 = if a = 1 then 1 else 0 := by
  have : op2 .eql .u32 a 1 = b2i (a == 1) := rfl
  rw [this]
  by_cases h : a = 1
  · subst h; rfl
  · rw [if_neg h]
    have : (a == 1) = false := by rw [beq_eq_false_iff_ne]; exact h
    rw [this]; rfl

theorem Odd_val (x : Fp) : s_Odd.f (nF x) = [if x.val % 2 = 1 then 1 else 0] := by
  obtain ⟨v, -, hin, he, -, hf⟩ := E_Odd (nF x) (nF_in x)
  obtain ⟨h16, h17⟩ := he
  have e : nF x = (x.val : Int) % 4294967296 :: toD 4294967296 15 ((x.val : Int) / 4294967296) := rfl
  rw [e] at hin
  have hin : v 0 :: seg v 1 15 = (x.val : Int) % 4294967296 :: toD 4294967296 15 ((x.val : Int) / 4294967296) := hin
  have h0 := (List.cons.inj hin).1
  rw [hf, h17, eql1, h16, h0]
  congr 1
  by_cases h : x.val % 2 = 1
  · rw [if_pos h, if_pos (by omega)]
  · rw [if_neg h, if_neg (by omega)]

theorem same32_val {a b : List Int} (ha : InB (BB 32) a) (hb : InB (BB 32) b) : s_same32.f (a ++ b) = [if a = b then 1 else 0] := by
  obtain ⟨v, -, hin, h64, -, hf⟩ := E_same32 (a ++ b) (InB.append ha hb)
  have hl : a.length = 32 := ha.len
  have s0 : seg v 0 32 = a := by rw [← seg_take v (show 32 ≤ 64 by decide), hin, List.take_left' hl]
  have s32 : seg v 32 32 = b := by
    have := seg_drop v (show 32 ≤ 64 by decide) 0
    rw [hin, List.drop_left' hl] at this
    exact this.symm
  rw [s0, s32, u8s_eq (BB_in ha) (BB_in hb)] at h64
  rw [hf, h64]

theorem NBytes_nF (x : Fp) : s_NBytes.f (nF x) = toD 256 32 (x.val : Int) := by
  rw [NBytes_val _ (nF_in x), ofD_nF]

end Go.X

namespace Go.X

/-! ### powers -/

def bitOf (e : List Int) (i : Int) : Int := (s_Bit.f (e ++ [i])).getD 0 0

def powF (a e : List Int) : Nat → List Int → List Int
  | 0, o => o
  | n + 1, o => powF a e n (if bitOf e n = 1 then s_FMul.f (s_FMul.f (o ++ o) ++ a) else s_FMul.f (o ++ o))

def f_powl (xs : List Int) : List Int := powF (xs.take 16) ((xs.drop 16).take 16) (xs.getD 32 0 + 1).toNat (xs.drop 33)

theorem FMul_bd {x y : List Int} (hx : InB (WB 16) x) (hy : InB (WB 16) y) : InB (WB 16) (s_FMul.f (x ++ y)) :=
  s_FMul.ok _ _ (show s_FMul.bt (WB 32) = some (WB 16) by kernel_rfl) _ (sub_in hx hy)

theorem powF_bd {a e : List Int} (ha : InB (WB 16) a) : ∀ (n : Nat) {o : List Int}, InB (WB 16) o → InB (WB 16) (powF a e n o)
  | 0, _, h => h
  | n + 1, o, h => by
    have h2 := FMul_bd h h
    show InB (WB 16) (powF a e n (if bitOf e n = 1 then s_FMul.f (s_FMul.f (o ++ o) ++ a) else s_FMul.f (o ++ o)))
    by_cases hb : bitOf e n = 1
    · rw [if_pos hb]; exact powF_bd ha n (FMul_bd h2 ha)
    · rw [if_neg hb]; exact powF_bd ha n h2

abbrev bPl : Bd := WB 16 ++ (WB 16 ++ ([(-1, 255)] ++ WB 16))

theorem bPl_split {xs : List Int} (h : InB bPl xs) : InB (WB 16) (xs.take 16) ∧ InB (WB 16) ((xs.drop 16).take 16) ∧ (-1 ≤ xs.getD 32 0 ∧ xs.getD 32 0 ≤ 255) ∧ InB (WB 16) (xs.drop 33) := by
  obtain ⟨h1, h2⟩ := InB.split h
  obtain ⟨h2, h3⟩ := InB.split h2
  obtain ⟨-, h5⟩ := InB.split h3
  refine ⟨h1, h2, h.get 32 (-1, 255) rfl, ?_⟩
  rw [List.drop_drop, List.drop_drop] at h5
  exact h5

def s_powl : Sem := Sem.of f_powl bPl (WB 16) (fun _ h => by
  obtain ⟨h1, -, -, h4⟩ := bPl_split h
  exact powF_bd h1 _ h4)

end Go.X

namespace Go.X
noncomputable section
def g_powl_0 : List (Nat × Ins) := [(49, .op2 .geq .i64 (.v 32) (.l 0))]
def outs_powl_0 : List A := (vs 33 16)
def q_powl_0 : Bd × List (Nat × Ins) × List Asm × Bool × List A := (((bs 32 0 4294967295) ++ [((-1), (-1))] ++ (bs 16 0 4294967295)), g_powl_0, [.cond (.v 49) false], true, outs_powl_0)
def g_powl_1 : List (Nat × Ins) := (List.flatten [[(84, .op2 .sub .i64 (.v 32) (.l 1))], apps 2 ((vs 50 16) ++ (vs 0 16)) 68 16, [(67, .op2 .eql .i64 (.v 66) (.l 1)), (66, .app 1 (vs 16 17) 0)], apps 2 ((vs 33 16) ++ (vs 33 16)) 50 16, [(49, .op2 .geq .i64 (.v 32) (.l 0))]])
def outs_powl_1 : List A := ((vs 0 32) ++ [(.v 84)] ++ (vs 68 16))
def q_powl_1 : Bd × List (Nat × Ins) × List Asm × Bool × List A := (((bs 32 0 4294967295) ++ [(0, 255)] ++ (bs 16 0 4294967295)), g_powl_1, [.pre 2 ((vs 50 16) ++ (vs 0 16)), .cond (.v 67) true, .pre 1 (vs 16 17), .pre 2 ((vs 33 16) ++ (vs 33 16)), .cond (.v 49) true], false, outs_powl_1)
def g_powl_2 : List (Nat × Ins) := ([(68, .op2 .sub .i64 (.v 32) (.l 1)), (67, .op2 .eql .i64 (.v 66) (.l 1)), (66, .app 1 (vs 16 17) 0)] ++ (apps 2 ((vs 33 16) ++ (vs 33 16)) 50 16) ++ [(49, .op2 .geq .i64 (.v 32) (.l 0))])
def outs_powl_2 : List A := ((vs 0 32) ++ [(.v 68)] ++ (vs 50 16))
def q_powl_2 : Bd × List (Nat × Ins) × List Asm × Bool × List A := (((bs 32 0 4294967295) ++ [(0, 255)] ++ (bs 16 0 4294967295)), g_powl_2, [.cond (.v 67) false, .pre 1 (vs 16 17), .pre 2 ((vs 33 16) ++ (vs 33 16)), .cond (.v 49) true], false, outs_powl_2)
def q_powl := [q_powl_0, q_powl_1, q_powl_2]
abbrev l_Pow : List Sem := [s_Small, s_Bit, s_FMul, s_powl]
def g_Pow : List (Nat × Ins) := ((apps 3 ((vs 0 32) ++ [(.l 255), (.v 32)] ++ (ls 0 15)) 33 16) ++ [(32, .app 0 [(.l 1)] 0)])
def outs_Pow : List A := (vs 33 16)
def s_Pow : Sem := Sem.st l_Pow g_Pow 32 49 outs_Pow (bs 32 0 4294967295) (bs 16 0 4294967295) (by kernel_rfl)

theorem E_powl_0 (xs : List Int) (hx : InB ((bs 32 0 4294967295) ++ [((-1), (-1))] ++ (bs 16 0 4294967295)) xs) : ∃ v : Nat → Int, vals l_Pow g_powl_0 xs = v ∧ seg v 0 49 = xs ∧ ((v 49 = op2 .geq .i64 (v 32) 0)) ∧ (True) ∧ (CondHold v [.cond (.v 49) false] = ((v 49 != 0) = false ∧ True)) ∧ outs_powl_0.map (A.ev v) = (seg v 33 16) :=
  Eq.mp (by kernel_rfl) (runQ (q := [.cond (.v 49) false]) (o := outs_powl_0) (l := l_Pow) (g := g_powl_0) (nin := 49) (top := 50) (by kernel_rfl) hx)
theorem E_powl_1 (xs : List Int) (hx : InB ((bs 32 0 4294967295) ++ [(0, 255)] ++ (bs 16 0 4294967295)) xs) : ∃ v : Nat → Int, vals l_Pow g_powl_1 xs = v ∧ seg v 0 49 = xs ∧ ((v 49 = op2 .geq .i64 (v 32) 0) ∧ (seg v 50 16 = gets (s_FMul.f (seg v 33 16 ++ seg v 33 16)) 0 16) ∧ (v 66 = (s_Bit.f (seg v 16 17)).getD 0 0) ∧ (v 67 = op2 .eql .i64 (v 66) 1) ∧ (seg v 68 16 = gets (s_FMul.f (seg v 50 16 ++ seg v 0 16)) 0 16) ∧ (v 84 = (v 32) - 1)) ∧ (True) ∧ (CondHold v [.pre 2 ((vs 50 16) ++ (vs 0 16)), .cond (.v 67) true, .pre 1 (vs 16 17), .pre 2 ((vs 33 16) ++ (vs 33 16)), .cond (.v 49) true] = ((v 67 != 0) = true ∧ ((v 49 != 0) = true ∧ True))) ∧ outs_powl_1.map (A.ev v) = (seg v 0 32 ++ [v 84] ++ seg v 68 16) :=
  Eq.mp (by kernel_rfl) (runQ (q := [.pre 2 ((vs 50 16) ++ (vs 0 16)), .cond (.v 67) true, .pre 1 (vs 16 17), .pre 2 ((vs 33 16) ++ (vs 33 16)), .cond (.v 49) true]) (o := outs_powl_1) (l := l_Pow) (g := g_powl_1) (nin := 49) (top := 85) (by kernel_rfl) hx)
theorem E_powl_2 (xs : List Int) (hx : InB ((bs 32 0 4294967295) ++ [(0, 255)] ++ (bs 16 0 4294967295)) xs) : ∃ v : Nat → Int, vals l_Pow g_powl_2 xs = v ∧ seg v 0 49 = xs ∧ ((v 49 = op2 .geq .i64 (v 32) 0) ∧ (seg v 50 16 = gets (s_FMul.f (seg v 33 16 ++ seg v 33 16)) 0 16) ∧ (v 66 = (s_Bit.f (seg v 16 17)).getD 0 0) ∧ (v 67 = op2 .eql .i64 (v 66) 1) ∧ (v 68 = (v 32) - 1)) ∧ (True) ∧ (CondHold v [.cond (.v 67) false, .pre 1 (vs 16 17), .pre 2 ((vs 33 16) ++ (vs 33 16)), .cond (.v 49) true] = ((v 67 != 0) = false ∧ ((v 49 != 0) = true ∧ True))) ∧ outs_powl_2.map (A.ev v) = (seg v 0 32 ++ [v 68] ++ seg v 50 16) :=
  Eq.mp (by kernel_rfl) (runQ (q := [.cond (.v 67) false, .pre 1 (vs 16 17), .pre 2 ((vs 33 16) ++ (vs 33 16)), .cond (.v 49) true]) (o := outs_powl_2) (l := l_Pow) (g := g_powl_2) (nin := 49) (top := 69) (by kernel_rfl) hx)
theorem E_Pow (xs : List Int) (hx : InB (bs 32 0 4294967295) xs) : ∃ v : Nat → Int, vals l_Pow g_Pow xs = v ∧ seg v 0 32 = xs ∧ ((v 32 = (s_Small.f ([1])).getD 0 0) ∧ (seg v 33 16 = gets (s_powl.f (seg v 0 32 ++ [255] ++ [v 32] ++ [0, 0, 0, 0, 0, 0, 0, 0, 0, 0, 0, 0, 0, 0, 0])) 0 16)) ∧ (True) ∧ s_Pow.f xs = (seg v 33 16) :=
  Eq.mp (by kernel_rfl) (runE (s := s_Pow) (o := outs_Pow) (l := l_Pow) (g := g_Pow) (nin := 32) (top := 49) (by kernel_rfl) hx (by kernel_rfl))

end
end Go.X

namespace Go.X

theorem f_powl_app {a e o : List Int} {i : Int} (ha : a.length = 16) (he : e.length = 16) : f_powl (a ++ (e ++ (i :: o))) = powF a e (i + 1).toNat o := by
  have h1 : (a ++ (e ++ (i :: o))).take 16 = a := List.take_left' ha
  have h2 : (a ++ (e ++ (i :: o))).drop 16 = e ++ (i :: o) := List.drop_left' ha
  have h3 : (e ++ (i :: o)).take 16 = e := List.take_left' he
  have h4 : (a ++ (e ++ (i :: o))).drop 32 = i :: o := by
    rw [show 32 = 16 + 16 from rfl, ← List.drop_drop, h2]; exact List.drop_left' he
  have h5 : (a ++ (e ++ (i :: o))).drop 33 = o := by
    rw [show 33 = 32 + 1 from rfl, ← List.drop_drop, h4]; rfl
  have h6 : (a ++ (e ++ (i :: o))).getD 32 0 = i := by
    have : (a ++ (e ++ (i :: o))).getD 32 0 = ((a ++ (e ++ (i :: o))).drop 32).getD 0 0 := by
      simp [List.getD_eq_getElem?_getD, List.getElem?_drop]
    rw [this, h4]; rfl
  unfold f_powl
  rw [h1, h2, h3, h5, h6]

theorem powl_in {a e o : List Int} {i l h : Int} (ha : InB (WB 16) a) (he : InB (WB 16) e) (hi : l ≤ i ∧ i ≤ h) (ho : InB (WB 16) o) :
    InB (WB 16 ++ (WB 16 ++ ([(l, h)] ++ WB 16))) (a ++ (e ++ (i :: o))) :=
  InB.append ha (InB.append he (InB.append (a := [(l, h)]) (x := [i]) ⟨hi.1, hi.2, trivial⟩ ho))

theorem powl_dec {xs : List Int} (h : InB bPl xs) : ∃ a e i o, xs = a ++ (e ++ (i :: o)) ∧ InB (WB 16) a ∧ InB (WB 16) e ∧ (-1 ≤ i ∧ i ≤ 255) ∧ InB (WB 16) o := by
  obtain ⟨h1, h2⟩ := InB.split h
  obtain ⟨h2, h3⟩ := InB.split h2
  have h1 : InB (WB 16) (xs.take 16) := h1
  have h2 : InB (WB 16) ((xs.drop 16).take 16) := h2
  have h3 : InB ([(-1, 255)] ++ WB 16) ((xs.drop 16).drop 16) := h3
  generalize hz : (xs.drop 16).drop 16 = z at *
  match z, h3 with
  | i :: o, h3 =>
    refine ⟨xs.take 16, (xs.drop 16).take 16, i, o, ?_, h1, h2, ⟨h3.1, h3.2.1⟩, h3.2.2⟩
    rw [← hz, List.take_append_drop, List.take_append_drop]

theorem segs_powl {v : Nat → Int} {a e o : List Int} {i : Int} (h : seg v 0 49 = a ++ (e ++ (i :: o))) (ha : a.length = 16) (he : e.length = 16) :
    seg v 0 16 = a ∧ seg v 16 16 = e ∧ v 32 = i ∧ seg v 33 16 = o := by
  have e1 : seg v 0 49 = seg v 0 16 ++ seg v 16 33 := seg_add v 16 33 0
  have e2 : seg v 16 33 = seg v 16 16 ++ seg v 32 17 := seg_add v 16 17 16
  have e3 : seg v 32 17 = v 32 :: seg v 33 16 := rfl
  rw [e1] at h
  obtain ⟨h1, h2⟩ := List.append_inj h (by rw [seg_len, ha])
  rw [e2] at h2
  obtain ⟨h3, h4⟩ := List.append_inj h2 (by rw [seg_len, he])
  rw [e3] at h4
  exact ⟨h1, h3, (List.cons.inj h4).1, (List.cons.inj h4).2⟩

theorem geq0 {a : Int} : op2 .geq .i64 a 0 = b2i (decide (a ≥ 0)) := rfl
theorem eql_i {a : Int} : op2 .eql .i64 a 1 = b2i (a == 1) := rfl

theorem lcov_powl : LCovered l_Pow s_powl q_powl := by
  refine ⟨fun xs => (xs.getD 32 0 + 1).toNat, ?_⟩
  intro xs hx
  obtain ⟨a, e, i, o, rfl, ha, he, hi, ho⟩ := powl_dec hx
  have la : a.length = 16 := ha.len
  have le : e.length = 16 := he.len
  have hs : s_powl.f (a ++ (e ++ (i :: o))) = powF a e (i + 1).toNat o := f_powl_app la le
  have hgd : ∀ (j : Int) (o' : List Int), (a ++ (e ++ (j :: o'))).getD 32 0 = j := by
    intro j o'
    rw [← List.append_assoc, List.getD_eq_getElem?_getD, List.getElem?_append_right (by rw [List.length_append, la, le]; decide), List.length_append, la, le]
    rfl
  by_cases h0 : i < 0
  · obtain ⟨v, hv, hin, h49, -, hc, hout⟩ := E_powl_0 (a ++ (e ++ (i :: o))) (powl_in (l := -1) (h := -1) ha he (by omega) ho)
    obtain ⟨-, -, e32, e33⟩ := segs_powl hin la le
    rw [e32, geq0, decide_eq_false (by omega)] at h49
    refine ⟨q_powl_0, List.mem_of_getElem? (show q_powl[0]? = some q_powl_0 from rfl), powl_in (l := -1) (h := -1) ha he (by omega) ho, ?_, ?_⟩
    · show CondHold (vals l_Pow g_powl_0 _) _
      rw [hv]
      refine hc.symm ▸ ⟨?_, trivial⟩
      rw [h49]; rfl
    · show s_powl.f _ = outs_powl_0.map (A.ev (vals l_Pow g_powl_0 _))
      rw [hv, hout, e33, hs, show i = -1 from by omega]; rfl
  · have hn : ((i.toNat : Nat) : Int) = i := by omega
    have hn1 : (i + 1).toNat = i.toNat + 1 := by omega
    by_cases hb : bitOf e i = 1
    · obtain ⟨v, hv, hin, ⟨h49, h50, h66, h67, h68, h84⟩, -, hc, hout⟩ := E_powl_1 (a ++ (e ++ (i :: o))) (powl_in (l := 0) (h := 255) ha he (by omega) ho)
      obtain ⟨e0, e16, e32, e33⟩ := segs_powl hin la le
      have e17 : seg v 16 17 = e ++ [i] := by rw [← e16, ← e32]; exact seg_add v 16 1 16
      have e02 : seg v 0 32 = a ++ e := by rw [← e0, ← e16]; exact seg_add v 16 16 0
      rw [e32, geq0, decide_eq_true (by omega)] at h49
      rw [e17] at h66
      have h66 : v 66 = bitOf e i := h66
      rw [h66, hb, eql_i] at h67
      rw [e33, gets_all (show _ = 16 from (FMul_bd ho ho).len)] at h50
      rw [h50, e0, gets_all (show _ = 16 from (FMul_bd (FMul_bd ho ho) ha).len)] at h68
      have eo : outs_powl_1.map (A.ev (vals l_Pow g_powl_1 (a ++ (e ++ (i :: o))))) = a ++ (e ++ ((i - 1) :: s_FMul.f (s_FMul.f (o ++ o) ++ a))) := by
        rw [hv, hout, e02, h84, e32, h68]; simp only [List.append_assoc]; rfl
      refine ⟨q_powl_1, List.mem_of_getElem? (show q_powl[1]? = some q_powl_1 from rfl), powl_in (l := 0) (h := 255) ha he (by omega) ho, ?_, ?_⟩
      · show CondHold (vals l_Pow g_powl_1 _) _
        rw [hv]
        refine hc.symm ▸ ⟨?_, ?_, trivial⟩
        · rw [h67]; rfl
        · rw [h49]; rfl
      · show InB s_powl.bi (outs_powl_1.map (A.ev (vals l_Pow g_powl_1 _))) ∧ ((outs_powl_1.map (A.ev (vals l_Pow g_powl_1 _))).getD 32 0 + 1).toNat < _ ∧ s_powl.f _ = s_powl.f (outs_powl_1.map (A.ev (vals l_Pow g_powl_1 _)))
        rw [eo]
        refine ⟨powl_in (l := -1) (h := 255) ha he (by omega) (FMul_bd (FMul_bd ho ho) ha), ?_, ?_⟩
        · show _ < ((a ++ (e ++ (i :: o))).getD 32 0 + 1).toNat
          rw [hgd, hgd]; omega
        · rw [hs, hn1]
          have : s_powl.f (a ++ (e ++ ((i - 1) :: s_FMul.f (s_FMul.f (o ++ o) ++ a)))) = powF a e (i - 1 + 1).toNat _ := f_powl_app la le
          rw [this, show i - 1 + 1 = i from by omega]
          show powF a e i.toNat (if bitOf e (i.toNat : Nat) = 1 then _ else _) = _
          rw [hn, if_pos hb]
    · obtain ⟨v, hv, hin, ⟨h49, h50, h66, h67, h84⟩, -, hc, hout⟩ := E_powl_2 (a ++ (e ++ (i :: o))) (powl_in (l := 0) (h := 255) ha he (by omega) ho)
      obtain ⟨e0, e16, e32, e33⟩ := segs_powl hin la le
      have e17 : seg v 16 17 = e ++ [i] := by rw [← e16, ← e32]; exact seg_add v 16 1 16
      have e02 : seg v 0 32 = a ++ e := by rw [← e0, ← e16]; exact seg_add v 16 16 0
      rw [e32, geq0, decide_eq_true (by omega)] at h49
      rw [e17] at h66
      have h66 : v 66 = bitOf e i := h66
      rw [h66, eql_i] at h67
      have hb' : (bitOf e i == 1) = false := by rw [beq_eq_false_iff_ne]; exact hb
      rw [hb'] at h67
      rw [e33, gets_all (show _ = 16 from (FMul_bd ho ho).len)] at h50
      have eo : outs_powl_2.map (A.ev (vals l_Pow g_powl_2 (a ++ (e ++ (i :: o))))) = a ++ (e ++ ((i - 1) :: s_FMul.f (o ++ o))) := by
        rw [hv, hout, e02, h84, e32, h50]; simp only [List.append_assoc]; rfl
      refine ⟨q_powl_2, List.mem_of_getElem? (show q_powl[2]? = some q_powl_2 from rfl), powl_in (l := 0) (h := 255) ha he (by omega) ho, ?_, ?_⟩
      · show CondHold (vals l_Pow g_powl_2 _) _
        rw [hv]
        refine hc.symm ▸ ⟨?_, ?_, trivial⟩
        · rw [h67]; rfl
        · rw [h49]; rfl
      · show InB s_powl.bi (outs_powl_2.map (A.ev (vals l_Pow g_powl_2 _))) ∧ ((outs_powl_2.map (A.ev (vals l_Pow g_powl_2 _))).getD 32 0 + 1).toNat < _ ∧ s_powl.f _ = s_powl.f (outs_powl_2.map (A.ev (vals l_Pow g_powl_2 _)))
        rw [eo]
        refine ⟨powl_in (l := -1) (h := 255) ha he (by omega) (FMul_bd ho ho), ?_, ?_⟩
        · show _ < ((a ++ (e ++ (i :: o))).getD 32 0 + 1).toNat
          rw [hgd, hgd]; omega
        · rw [hs, hn1]
          have : s_powl.f (a ++ (e ++ ((i - 1) :: s_FMul.f (o ++ o)))) = powF a e (i - 1 + 1).toNat _ := f_powl_app la le
          rw [this, show i - 1 + 1 = i from by omega]
          show powF a e i.toNat (if bitOf e (i.toNat : Nat) = 1 then _ else _) = _
          rw [hn, if_neg hb]

end Go.X

namespace Go.X

theorem getD_ev (v : Nat → Int) (k : Nat) (hk : k < 16) : (((vs 0 16) : List A).getD k (.l 0)).ev v = v k := by
  match k, hk with
  | 0, _ => rfl
  | 1, _ => rfl
  | 2, _ => rfl
  | 3, _ => rfl
  | 4, _ => rfl
  | 5, _ => rfl
  | 6, _ => rfl
  | 7, _ => rfl
  | 8, _ => rfl
  | 9, _ => rfl
  | 10, _ => rfl
  | 11, _ => rfl
  | 12, _ => rfl
  | 13, _ => rfl
  | 14, _ => rfl
  | 15, _ => rfl
  | k + 16, h => exact absurd h (by omega)

theorem shr_div {a : Int} {r : Nat} (h : r < 32) : op2 .shr .u32 a (r : Int) = a / 2 ^ r := by
  have e : op2 .shr .u32 a (r : Int) = a.fdiv (2 ^ min (r : Int).toNat 32) := rfl
  rw [e, Int.toNat_natCast, Nat.min_eq_left (by omega), Int.fdiv_eq_ediv_of_nonneg _ (Int.le_of_lt (Int.pow_pos (by decide)))]

theorem seg_split (v : Nat → Int) {n k : Nat} (h : k < n) : seg v 0 n = seg v 0 k ++ v k :: seg v (k + 1) (n - k - 1) := by
  have e : n = k + (1 + (n - k - 1)) := by omega
  have e2 : seg v 0 n = seg v 0 (k + (1 + (n - k - 1))) := by rw [← e]
  rw [e2, seg_add, seg_add, Nat.zero_add]
  rfl

theorem bit_at {v : Nat → Int} {k r : Nat} (hk : k < 16) (hr : r < 32) (hd : InD 4294967296 (seg v 0 16)) :
    (ofD 4294967296 (seg v 0 16) / 2 ^ (32 * k + r)) % 2 = (v k / 2 ^ r) % 2 := by
  rw [seg_split v hk] at hd ⊢
  have hl := InD_left hd
  obtain ⟨l0, l1⟩ := ofD_bound (b := 4294967296) (by decide) hl
  rw [ofD_append]
  rw [seg_len] at l1 ⊢
  have e1 : ofD 4294967296 (v k :: seg v (k + 1) (16 - k - 1)) = v k + 4294967296 * ofD 4294967296 (seg v (k + 1) (16 - k - 1)) := rfl
  rw [e1]
  generalize ofD 4294967296 (seg v (k + 1) (16 - k - 1)) = H
  generalize ofD 4294967296 (seg v 0 k) = L at *
  have hw : (2 : Int) ^ (32 * k + r) = 4294967296 ^ k * 2 ^ r := by
    rw [Int.pow_add, Int.pow_mul]; rfl
  have hp : (0 : Int) < 4294967296 ^ k := Int.pow_pos (by decide)
  rw [hw, ← Int.ediv_ediv_of_nonneg (Int.le_of_lt hp), Int.add_mul_ediv_left _ _ (by omega), Int.ediv_eq_zero_of_lt l0 l1, Int.zero_add]
  have hr2 : (4294967296 : Int) = 2 ^ r * (2 * 2 ^ (31 - r)) := by
    rw [← Int.pow_succ', ← Int.pow_add, show r + (31 - r + 1) = 32 from by omega]; rfl
  have hp2 : (0 : Int) < 2 ^ r := Int.pow_pos (by decide)
  rw [hr2, Int.mul_assoc, Int.add_mul_ediv_left _ _ (by omega), Int.mul_assoc, Int.add_mul_emod_self_left]

theorem Bit_val {e : List Int} (he : InB (WB 16) e) {n : Nat} (hn : n < 256) : bitOf e n = (ofD 4294967296 e / 2 ^ n) % 2 := by
  have hx : InB (WB 16 ++ [(0, 255)]) (e ++ [(n : Int)]) := InB.append he ⟨by omega, by omega, trivial⟩
  obtain ⟨v, -, hin, ⟨h17, h18, h19, h20, h21, h22⟩, -, hf⟩ := E_Bit (e ++ [(n : Int)]) hx
  have e1 : seg v 0 17 = seg v 0 16 ++ [v 16] := seg_add v 16 1 0
  rw [e1] at hin
  obtain ⟨e0, e16⟩ := List.append_inj hin (by rw [seg_len]; exact he.len.symm)
  have e16 : v 16 = n := (List.cons.inj e16).1
  have hd : InD 4294967296 e := InB_InD (b := 4294967296) (n := 16) he
  rw [← e0] at hd
  unfold bitOf
  rw [hf]
  show v 22 = _
  have hk : (v 17).toNat = n / 32 := by rw [h17, e16]; omega
  have hr : v 19 = ((n % 32 : Nat) : Int) := by rw [h19, e16]; omega
  rw [hk, getD_ev v _ (by omega)] at h18
  rw [hr, shr_div (by omega), h18] at h20
  rw [h22, h21, h20, ← bit_at (by omega) (by omega) hd, e0, show 32 * (n / 32) + n % 32 = n from by omega]

theorem powF_val (x : Fp) {e : List Int} (he : InB (WB 16) e) {E : Nat} (hE : ofD 4294967296 e = E) : ∀ (n : Nat), n ≤ 256 → ∀ j : Nat, powF (nF x) e n (nF (x ^ j)) = nF (x ^ (j * 2 ^ n + E % 2 ^ n))
  | 0, _, j => by
    show nF (x ^ j) = _
    rw [Nat.pow_zero, Nat.mul_one, Nat.mod_one, Nat.add_zero]
  | n + 1, hn, j => by
    show powF (nF x) e n (if bitOf e n = 1 then s_FMul.f (s_FMul.f (nF (x ^ j) ++ nF (x ^ j)) ++ nF x) else s_FMul.f (nF (x ^ j) ++ nF (x ^ j))) = _
    have hb := Bit_val he (n := n) (by omega)
    rw [hE] at hb
    have hb2 : bitOf e n = ((E / 2 ^ n % 2 : Nat) : Int) := by
      rw [hb, Int.natCast_emod, Int.natCast_ediv, Int.natCast_pow]; rfl
    have hm : E % 2 ^ (n + 1) = E % 2 ^ n + 2 ^ n * (E / 2 ^ n % 2) := by rw [Nat.pow_succ, Nat.mod_mul]
    rw [FMul_val, ← pow_add_F]
    have hp : 2 ^ (n + 1) = 2 * 2 ^ n := by rw [Nat.pow_succ, Nat.mul_comm]
    by_cases h1 : E / 2 ^ n % 2 = 1
    · rw [if_pos (by rw [hb2, h1]; rfl), FMul_val]
      have : x ^ (j + j) * x = x ^ (j + j + 1) := by
        have : x ^ (j + j + 1) = x ^ (j + j) * x := by grind
        exact this.symm
      rw [this, powF_val x he hE n (by omega), hm, h1, hp]
      have : (j + j + 1) * 2 ^ n + E % 2 ^ n = j * (2 * 2 ^ n) + (E % 2 ^ n + 2 ^ n * 1) := by
        generalize 2 ^ n = z; grind
      rw [this]
    · have h0 : E / 2 ^ n % 2 = 0 := by omega
      rw [if_neg (by rw [hb2, h0]; decide), powF_val x he hE n (by omega), hm, h0, hp]
      have : (j + j) * 2 ^ n + E % 2 ^ n = j * (2 * 2 ^ n) + (E % 2 ^ n + 2 ^ n * 0) := by
        generalize 2 ^ n = z; grind
      rw [this]

theorem Small_val {n : Int} (h0 : 0 ≤ n) (h1 : n < 4294967296) : s_Small.f [n] = [n] := by
  obtain ⟨v, -, hin, h, -, hf⟩ := E_Small [n] ⟨by omega, by omega, trivial⟩
  have e0 : v 0 = n := (List.cons.inj hin).1
  rw [hf, h, e0, Int.emod_eq_of_lt h0 h1]

theorem Pow_val (x : Fp) {e : List Int} (he : InB (WB 16) e) {E : Nat} (hE : ofD 4294967296 e = E) (hE2 : E < 2 ^ 256) : s_Pow.f (nF x ++ e) = nF (x ^ E) := by
  obtain ⟨v, -, hin, ⟨h32, h33⟩, -, hf⟩ := E_Pow (nF x ++ e) (sub_in (nF_in x) he)
  rw [Small_val (by decide) (by decide)] at h32
  have h32 : v 32 = 1 := h32
  have ea : seg v 0 32 ++ [255] ++ [v 32] ++ [0, 0, 0, 0, 0, 0, 0, 0, 0, 0, 0, 0, 0, 0, 0] = nF x ++ (e ++ ((255 : Int) :: nF 1)) := by
    rw [hin, h32, nF_one]; simp only [List.append_assoc]; rfl
  have e1 : (1 : Fp) = x ^ 0 := by grind
  have hp : s_powl.f (nF x ++ (e ++ ((255 : Int) :: nF 1))) = powF (nF x) e (255 + 1 : Int).toNat (nF 1) := f_powl_app (nF_len x) he.len
  rw [ea, hp, e1, show (255 + 1 : Int).toNat = 256 from rfl, powF_val x he hE 256 (by decide), gets_all (nF_len _), Nat.zero_mul, Nat.zero_add, Nat.mod_eq_of_lt hE2] at h33
  rw [hf, h33]

end Go.X

namespace Go.X
set_option maxRecDepth 20000
noncomputable section
abbrev l_Inv : List Sem := [s_Minus, s_Small, s_P, s_Pow]
def g_Inv : List (Nat × Ins) := ((apps 3 ((vs 0 16) ++ (vs 17 16)) 33 16) ++ (apps 0 (List.flatten [[(.l 4294967277)], ls 4294967295 6, [(.l 2147483647)], ls 0 8, [(.v 16)], ls 0 15]) 17 16) ++ [(16, .app 1 [(.l 2)] 0)])
def outs_Inv : List A := (vs 33 16)
def s_Inv : Sem := Sem.st l_Inv g_Inv 16 49 outs_Inv (bs 16 0 4294967295) (bs 16 0 4294967295) (by kernel_rfl)

theorem E_Inv (xs : List Int) (hx : InB (bs 16 0 4294967295) xs) : ∃ v : Nat → Int, vals l_Inv g_Inv xs = v ∧ seg v 0 16 = xs ∧ ((v 16 = (s_Small.f ([2])).getD 0 0) ∧ (seg v 17 16 = gets (s_Minus.f ([4294967277, 4294967295, 4294967295, 4294967295, 4294967295, 4294967295, 4294967295, 2147483647, 0, 0, 0, 0, 0, 0, 0, 0, v 16, 0, 0, 0, 0, 0, 0, 0, 0, 0, 0, 0, 0, 0, 0, 0])) 0 16) ∧ (seg v 33 16 = gets (s_Pow.f (seg v 0 16 ++ seg v 17 16)) 0 16)) ∧ (True) ∧ s_Inv.f xs = (seg v 33 16) :=
  Eq.mp (by kernel_rfl) (runE (s := s_Inv) (o := outs_Inv) (l := l_Inv) (g := g_Inv) (nin := 16) (top := 49) (by kernel_rfl) hx (by kernel_rfl))

abbrev l_mone : List Sem := [s_Minus, s_Small, s_P, s_Pow]
def g_mone : List (Nat × Ins) := (List.flatten [apps 3 ([(.v 109)] ++ (ls 0 15) ++ [(.v 65), (.v 68), (.v 71), (.v 74), (.v 77), (.v 80), (.v 83), (.v 86), (.v 89), (.v 92), (.v 95), (.v 98), (.v 101), (.v 104), (.v 107), (.v 108)]) 110 16, [(109, .app 1 [(.l 2)] 0), (108, .op2 .shr .u32 (.v 62) (.l 1)), (107, .op2 .or .u32 (.v 105) (.v 106)), (106, .op2 .shl .u32 (.v 62) (.l 31)), (105, .op2 .shr .u32 (.v 61) (.l 1)), (104, .op2 .or .u32 (.v 102) (.v 103)), (103, .op2 .shl .u32 (.v 61) (.l 31)), (102, .op2 .shr .u32 (.v 58) (.l 1)), (101, .op2 .or .u32 (.v 99) (.v 100)), (100, .op2 .shl .u32 (.v 58) (.l 31)), (99, .op2 .shr .u32 (.v 55) (.l 1)), (98, .op2 .or .u32 (.v 96) (.v 97)), (97, .op2 .shl .u32 (.v 55) (.l 31)), (96, .op2 .shr .u32 (.v 52) (.l 1)), (95, .op2 .or .u32 (.v 93) (.v 94)), (94, .op2 .shl .u32 (.v 52) (.l 31)), (93, .op2 .shr .u32 (.v 49) (.l 1)), (92, .op2 .or .u32 (.v 90) (.v 91)), (91, .op2 .shl .u32 (.v 49) (.l 31)), (90, .op2 .shr .u32 (.v 46) (.l 1)), (89, .op2 .or .u32 (.v 87) (.v 88)), (88, .op2 .shl .u32 (.v 46) (.l 31)), (87, .op2 .shr .u32 (.v 43) (.l 1)), (86, .op2 .or .u32 (.v 84) (.v 85)), (85, .op2 .shl .u32 (.v 43) (.l 31)), (84, .op2 .shr .u32 (.v 40) (.l 1)), (83, .op2 .or .u32 (.v 81) (.v 82)), (82, .op2 .shl .u32 (.v 40) (.l 31)), (81, .op2 .shr .u32 (.v 37) (.l 1)), (80, .op2 .or .u32 (.v 78) (.v 79)), (79, .op2 .shl .u32 (.v 37) (.l 31)), (78, .op2 .shr .u32 (.v 34) (.l 1)), (77, .op2 .or .u32 (.v 75) (.v 76)), (76, .op2 .shl .u32 (.v 34) (.l 31)), (75, .op2 .shr .u32 (.v 31) (.l 1)), (74, .op2 .or .u32 (.v 72) (.v 73)), (73, .op2 .shl .u32 (.v 31) (.l 31)), (72, .op2 .shr .u32 (.v 28) (.l 1)), (71, .op2 .or .u32 (.v 69) (.v 70)), (70, .op2 .shl .u32 (.v 28) (.l 31)), (69, .op2 .shr .u32 (.v 25) (.l 1)), (68, .op2 .or .u32 (.v 66) (.v 67)), (67, .op2 .shl .u32 (.v 25) (.l 31)), (66, .op2 .shr .u32 (.v 22) (.l 1)), (65, .op2 .or .u32 (.v 63) (.v 64)), (64, .op2 .shl .u32 (.v 22) (.l 31)), (63, .op2 .shr .u32 (.v 19) (.l 1)), (62, .op2 .shr .u32 (.v 16) (.l 1)), (61, .op2 .or .u32 (.v 59) (.v 60)), (60, .op2 .shl .u32 (.v 16) (.l 31)), (59, .op2 .shr .u32 (.v 15) (.l 1)), (58, .op2 .or .u32 (.v 56) (.v 57)), (57, .op2 .shl .u32 (.v 15) (.l 31)), (56, .op2 .shr .u32 (.v 14) (.l 1)), (55, .op2 .or .u32 (.v 53) (.v 54)), (54, .op2 .shl .u32 (.v 14) (.l 31)), (53, .op2 .shr .u32 (.v 13) (.l 1)), (52, .op2 .or .u32 (.v 50) (.v 51)), (51, .op2 .shl .u32 (.v 13) (.l 31)), (50, .op2 .shr .u32 (.v 12) (.l 1)), (49, .op2 .or .u32 (.v 47) (.v 48)), (48, .op2 .shl .u32 (.v 12) (.l 31)), (47, .op2 .shr .u32 (.v 11) (.l 1)), (46, .op2 .or .u32 (.v 44) (.v 45)), (45, .op2 .shl .u32 (.v 11) (.l 31)), (44, .op2 .shr .u32 (.v 10) (.l 1)), (43, .op2 .or .u32 (.v 41) (.v 42)), (42, .op2 .shl .u32 (.v 10) (.l 31)), (41, .op2 .shr .u32 (.v 9) (.l 1)), (40, .op2 .or .u32 (.v 38) (.v 39)), (39, .op2 .shl .u32 (.v 9) (.l 31)), (38, .op2 .shr .u32 (.v 8) (.l 1)), (37, .op2 .or .u32 (.v 35) (.v 36)), (36, .op2 .shl .u32 (.v 8) (.l 31)), (35, .op2 .shr .u32 (.v 7) (.l 1)), (34, .op2 .or .u32 (.v 32) (.v 33)), (33, .op2 .shl .u32 (.v 7) (.l 31)), (32, .op2 .shr .u32 (.v 6) (.l 1)), (31, .op2 .or .u32 (.v 29) (.v 30)), (30, .op2 .shl .u32 (.v 6) (.l 31)), (29, .op2 .shr .u32 (.v 5) (.l 1)), (28, .op2 .or .u32 (.v 26) (.v 27)), (27, .op2 .shl .u32 (.v 5) (.l 31)), (26, .op2 .shr .u32 (.v 4) (.l 1)), (25, .op2 .or .u32 (.v 23) (.v 24)), (24, .op2 .shl .u32 (.v 4) (.l 31)), (23, .op2 .shr .u32 (.v 3) (.l 1)), (22, .op2 .or .u32 (.v 20) (.v 21)), (21, .op2 .shl .u32 (.v 3) (.l 31)), (20, .op2 .shr .u32 (.v 2) (.l 1)), (19, .op2 .or .u32 (.v 17) (.v 18)), (18, .op2 .shl .u32 (.v 2) (.l 31)), (17, .op2 .shr .u32 (.v 1) (.l 1))], apps 0 (List.flatten [[(.l 4294967277)], ls 4294967295 6, [(.l 2147483647)], ls 0 8, [(.v 0)], ls 0 15]) 1 16, [(0, .app 1 [(.l 1)] 0)]])
def outs_mone : List A := (vs 110 16)
def s_mone : Sem := Sem.st l_mone g_mone 0 126 outs_mone [] (bs 16 0 4294967295) (by kernel_rfl)

theorem E_mone (xs : List Int) (hx : InB [] xs) : ∃ v : Nat → Int, vals l_mone g_mone xs = v ∧ seg v 0 0 = xs ∧ ((v 0 = (s_Small.f ([1])).getD 0 0) ∧ (seg v 1 16 = gets (s_Minus.f ([4294967277, 4294967295, 4294967295, 4294967295, 4294967295, 4294967295, 4294967295, 2147483647, 0, 0, 0, 0, 0, 0, 0, 0, v 0, 0, 0, 0, 0, 0, 0, 0, 0, 0, 0, 0, 0, 0, 0, 0])) 0 16) ∧ (v 17 = (v 1) / 2) ∧ (v 18 = ((v 2) * 2147483648) % 4294967296) ∧ (v 19 = (v 17) + (v 18)) ∧ (v 20 = (v 2) / 2) ∧ (v 21 = ((v 3) * 2147483648) % 4294967296) ∧ (v 22 = (v 20) + (v 21)) ∧ (v 23 = (v 3) / 2) ∧ (v 24 = ((v 4) * 2147483648) % 4294967296) ∧ (v 25 = (v 23) + (v 24)) ∧ (v 26 = (v 4) / 2) ∧ (v 27 = ((v 5) * 2147483648) % 4294967296) ∧ (v 28 = (v 26) + (v 27)) ∧ (v 29 = (v 5) / 2) ∧ (v 30 = ((v 6) * 2147483648) % 4294967296) ∧ (v 31 = (v 29) + (v 30)) ∧ (v 32 = (v 6) / 2) ∧ (v 33 = ((v 7) * 2147483648) % 4294967296) ∧ (v 34 = (v 32) + (v 33)) ∧ (v 35 = (v 7) / 2) ∧ (v 36 = ((v 8) * 2147483648) % 4294967296) ∧ (v 37 = (v 35) + (v 36)) ∧ (v 38 = (v 8) / 2) ∧ (v 39 = ((v 9) * 2147483648) % 4294967296) ∧ (v 40 = (v 38) + (v 39)) ∧ (v 41 = (v 9) / 2) ∧ (v 42 = ((v 10) * 2147483648) % 4294967296) ∧ (v 43 = (v 41) + (v 42)) ∧ (v 44 = (v 10) / 2) ∧ (v 45 = ((v 11) * 2147483648) % 4294967296) ∧ (v 46 = (v 44) + (v 45)) ∧ (v 47 = (v 11) / 2) ∧ (v 48 = ((v 12) * 2147483648) % 4294967296) ∧ (v 49 = (v 47) + (v 48)) ∧ (v 50 = (v 12) / 2) ∧ (v 51 = ((v 13) * 2147483648) % 4294967296) ∧ (v 52 = (v 50) + (v 51)) ∧ (v 53 = (v 13) / 2) ∧ (v 54 = ((v 14) * 2147483648) % 4294967296) ∧ (v 55 = (v 53) + (v 54)) ∧ (v 56 = (v 14) / 2) ∧ (v 57 = ((v 15) * 2147483648) % 4294967296) ∧ (v 58 = (v 56) + (v 57)) ∧ (v 59 = (v 15) / 2) ∧ (v 60 = ((v 16) * 2147483648) % 4294967296) ∧ (v 61 = (v 59) + (v 60)) ∧ (v 62 = (v 16) / 2) ∧ (v 63 = (v 19) / 2) ∧ (v 64 = ((v 22) * 2147483648) % 4294967296) ∧ (v 65 = (v 63) + (v 64)) ∧ (v 66 = (v 22) / 2) ∧ (v 67 = ((v 25) * 2147483648) % 4294967296) ∧ (v 68 = (v 66) + (v 67)) ∧ (v 69 = (v 25) / 2) ∧ (v 70 = ((v 28) * 2147483648) % 4294967296) ∧ (v 71 = (v 69) + (v 70)) ∧ (v 72 = (v 28) / 2) ∧ (v 73 = ((v 31) * 2147483648) % 4294967296) ∧ (v 74 = (v 72) + (v 73)) ∧ (v 75 = (v 31) / 2) ∧ (v 76 = ((v 34) * 2147483648) % 4294967296) ∧ (v 77 = (v 75) + (v 76)) ∧ (v 78 = (v 34) / 2) ∧ (v 79 = ((v 37) * 2147483648) % 4294967296) ∧ (v 80 = (v 78) + (v 79)) ∧ (v 81 = (v 37) / 2) ∧ (v 82 = ((v 40) * 2147483648) % 4294967296) ∧ (v 83 = (v 81) + (v 82)) ∧ (v 84 = (v 40) / 2) ∧ (v 85 = ((v 43) * 2147483648) % 4294967296) ∧ (v 86 = (v 84) + (v 85)) ∧ (v 87 = (v 43) / 2) ∧ (v 88 = ((v 46) * 2147483648) % 4294967296) ∧ (v 89 = (v 87) + (v 88)) ∧ (v 90 = (v 46) / 2) ∧ (v 91 = ((v 49) * 2147483648) % 4294967296) ∧ (v 92 = (v 90) + (v 91)) ∧ (v 93 = (v 49) / 2) ∧ (v 94 = ((v 52) * 2147483648) % 4294967296) ∧ (v 95 = (v 93) + (v 94)) ∧ (v 96 = (v 52) / 2) ∧ (v 97 = ((v 55) * 2147483648) % 4294967296) ∧ (v 98 = (v 96) + (v 97)) ∧ (v 99 = (v 55) / 2) ∧ (v 100 = ((v 58) * 2147483648) % 4294967296) ∧ (v 101 = (v 99) + (v 100)) ∧ (v 102 = (v 58) / 2) ∧ (v 103 = ((v 61) * 2147483648) % 4294967296) ∧ (v 104 = (v 102) + (v 103)) ∧ (v 105 = (v 61) / 2) ∧ (v 106 = ((v 62) * 2147483648) % 4294967296) ∧ (v 107 = (v 105) + (v 106)) ∧ (v 108 = (v 62) / 2) ∧ (v 109 = (s_Small.f ([2])).getD 0 0) ∧ (seg v 110 16 = gets (s_Pow.f ([v 109, 0, 0, 0, 0, 0, 0, 0, 0, 0, 0, 0, 0, 0, 0, 0, v 65, v 68, v 71, v 74, v 77, v 80, v 83, v 86, v 89, v 92, v 95, v 98, v 101, v 104, v 107, v 108])) 0 16)) ∧ (True) ∧ s_mone.f xs = (seg v 110 16) :=
  Eq.mp (by kernel_rfl) (runE (s := s_mone) (o := outs_mone) (l := l_mone) (g := g_mone) (nin := 0) (top := 126) (by kernel_rfl) hx (by kernel_rfl))

abbrev l_root : List Sem := [s_FMul, s_FNeg, s_Odd, s_Pow]
def g_root_0 : List (Nat × Ins) := (List.flatten [[(99, .eqs false (vs 83 16) (vs 0 16))], apps 0 ((vs 48 16) ++ (vs 48 16)) 83 16, [(82, .app 2 (vs 48 16) 0), (81, .ite (.v 80) (.l 0) (.l 1)), (80, .eqs false (vs 64 16) (vs 0 16))], apps 0 ((vs 48 16) ++ (vs 48 16)) 64 16, apps 3 (vs 0 32) 48 16])
def outs_root_0 : List A := ((vs 48 16) ++ [(.v 99)])
def q_root_0 : FPath := ⟨(bs 48 0 4294967295), g_root_0, [.pre 0 ((vs 48 16) ++ (vs 48 16)), .cond (.v 82) false, .pre 2 (vs 48 16), .cond (.v 81) false, .pre 0 ((vs 48 16) ++ (vs 48 16)), .pre 3 (vs 0 32)], outs_root_0⟩
def g_root_1 : List (Nat × Ins) := (List.flatten [[(115, .eqs false (vs 99 16) (vs 0 16))], apps 0 ((vs 83 16) ++ (vs 83 16)) 99 16, apps 1 (vs 48 16) 83 16, [(82, .app 2 (vs 48 16) 0), (81, .ite (.v 80) (.l 0) (.l 1)), (80, .eqs false (vs 64 16) (vs 0 16))], apps 0 ((vs 48 16) ++ (vs 48 16)) 64 16, apps 3 (vs 0 32) 48 16])
def outs_root_1 : List A := ((vs 83 16) ++ [(.v 115)])
def q_root_1 : FPath := ⟨(bs 48 0 4294967295), g_root_1, [.pre 0 ((vs 83 16) ++ (vs 83 16)), .pre 1 (vs 48 16), .cond (.v 82) true, .pre 2 (vs 48 16), .cond (.v 81) false, .pre 0 ((vs 48 16) ++ (vs 48 16)), .pre 3 (vs 0 32)], outs_root_1⟩
def g_root_2 : List (Nat × Ins) := (List.flatten [[(115, .eqs false (vs 99 16) (vs 0 16))], apps 0 ((vs 82 16) ++ (vs 82 16)) 99 16, [(98, .app 2 (vs 82 16) 0)], apps 0 ((vs 48 16) ++ (vs 32 16)) 82 16, [(81, .ite (.v 80) (.l 0) (.l 1)), (80, .eqs false (vs 64 16) (vs 0 16))], apps 0 ((vs 48 16) ++ (vs 48 16)) 64 16, apps 3 (vs 0 32) 48 16])
def outs_root_2 : List A := ((vs 82 16) ++ [(.v 115)])
def q_root_2 : FPath := ⟨(bs 48 0 4294967295), g_root_2, [.pre 0 ((vs 82 16) ++ (vs 82 16)), .cond (.v 98) false, .pre 2 (vs 82 16), .pre 0 ((vs 48 16) ++ (vs 32 16)), .cond (.v 81) true, .pre 0 ((vs 48 16) ++ (vs 48 16)), .pre 3 (vs 0 32)], outs_root_2⟩
def g_root_3 : List (Nat × Ins) := (List.flatten [[(131, .eqs false (vs 115 16) (vs 0 16))], apps 0 ((vs 99 16) ++ (vs 99 16)) 115 16, apps 1 (vs 82 16) 99 16, [(98, .app 2 (vs 82 16) 0)], apps 0 ((vs 48 16) ++ (vs 32 16)) 82 16, [(81, .ite (.v 80) (.l 0) (.l 1)), (80, .eqs false (vs 64 16) (vs 0 16))], apps 0 ((vs 48 16) ++ (vs 48 16)) 64 16, apps 3 (vs 0 32) 48 16])
def outs_root_3 : List A := ((vs 99 16) ++ [(.v 131)])
def q_root_3 : FPath := ⟨(bs 48 0 4294967295), g_root_3, [.pre 0 ((vs 99 16) ++ (vs 99 16)), .pre 1 (vs 82 16), .cond (.v 98) true, .pre 2 (vs 82 16), .pre 0 ((vs 48 16) ++ (vs 32 16)), .cond (.v 81) true, .pre 0 ((vs 48 16) ++ (vs 48 16)), .pre 3 (vs 0 32)], outs_root_3⟩
def q_root : List FPath := [q_root_0, q_root_1, q_root_2, q_root_3]
theorem E_root_0 (xs : List Int) (hx : InB (bs 48 0 4294967295) xs) : ∃ v : Nat → Int, vals l_root g_root_0 xs = v ∧ seg v 0 48 = xs ∧ ((seg v 48 16 = gets (s_Pow.f (seg v 0 32)) 0 16) ∧ (seg v 64 16 = gets (s_FMul.f (seg v 48 16 ++ seg v 48 16)) 0 16) ∧ (v 80 = b2i ((seg v 64 16) == (seg v 0 16))) ∧ (v 81 = (if v 80 ≠ 0 then 0 else 1)) ∧ (v 82 = (s_Odd.f (seg v 48 16)).getD 0 0) ∧ (seg v 83 16 = gets (s_FMul.f (seg v 48 16 ++ seg v 48 16)) 0 16) ∧ (v 99 = b2i ((seg v 83 16) == (seg v 0 16)))) ∧ (True) ∧ (CondHold v q_root_0.asm = ((v 82 != 0) = false ∧ ((v 81 != 0) = false ∧ True))) ∧ outs_root_0.map (A.ev v) = (seg v 48 16 ++ [v 99]) :=
  Eq.mp (by kernel_rfl) (runQ (q := q_root_0.asm) (o := outs_root_0) (l := l_root) (g := g_root_0) (nin := 48) (top := 100) (by kernel_rfl) hx)
theorem E_root_1 (xs : List Int) (hx : InB (bs 48 0 4294967295) xs) : ∃ v : Nat → Int, vals l_root g_root_1 xs = v ∧ seg v 0 48 = xs ∧ ((seg v 48 16 = gets (s_Pow.f (seg v 0 32)) 0 16) ∧ (seg v 64 16 = gets (s_FMul.f (seg v 48 16 ++ seg v 48 16)) 0 16) ∧ (v 80 = b2i ((seg v 64 16) == (seg v 0 16))) ∧ (v 81 = (if v 80 ≠ 0 then 0 else 1)) ∧ (v 82 = (s_Odd.f (seg v 48 16)).getD 0 0) ∧ (seg v 83 16 = gets (s_FNeg.f (seg v 48 16)) 0 16) ∧ (seg v 99 16 = gets (s_FMul.f (seg v 83 16 ++ seg v 83 16)) 0 16) ∧ (v 115 = b2i ((seg v 99 16) == (seg v 0 16)))) ∧ (True) ∧ (CondHold v q_root_1.asm = ((v 82 != 0) = true ∧ ((v 81 != 0) = false ∧ True))) ∧ outs_root_1.map (A.ev v) = (seg v 83 16 ++ [v 115]) :=
  Eq.mp (by kernel_rfl) (runQ (q := q_root_1.asm) (o := outs_root_1) (l := l_root) (g := g_root_1) (nin := 48) (top := 116) (by kernel_rfl) hx)
theorem E_root_2 (xs : List Int) (hx : InB (bs 48 0 4294967295) xs) : ∃ v : Nat → Int, vals l_root g_root_2 xs = v ∧ seg v 0 48 = xs ∧ ((seg v 48 16 = gets (s_Pow.f (seg v 0 32)) 0 16) ∧ (seg v 64 16 = gets (s_FMul.f (seg v 48 16 ++ seg v 48 16)) 0 16) ∧ (v 80 = b2i ((seg v 64 16) == (seg v 0 16))) ∧ (v 81 = (if v 80 ≠ 0 then 0 else 1)) ∧ (seg v 82 16 = gets (s_FMul.f (seg v 48 16 ++ seg v 32 16)) 0 16) ∧ (v 98 = (s_Odd.f (seg v 82 16)).getD 0 0) ∧ (seg v 99 16 = gets (s_FMul.f (seg v 82 16 ++ seg v 82 16)) 0 16) ∧ (v 115 = b2i ((seg v 99 16) == (seg v 0 16)))) ∧ (True) ∧ (CondHold v q_root_2.asm = ((v 98 != 0) = false ∧ ((v 81 != 0) = true ∧ True))) ∧ outs_root_2.map (A.ev v) = (seg v 82 16 ++ [v 115]) :=
  Eq.mp (by kernel_rfl) (runQ (q := q_root_2.asm) (o := outs_root_2) (l := l_root) (g := g_root_2) (nin := 48) (top := 116) (by kernel_rfl) hx)
theorem E_root_3 (xs : List Int) (hx : InB (bs 48 0 4294967295) xs) : ∃ v : Nat → Int, vals l_root g_root_3 xs = v ∧ seg v 0 48 = xs ∧ ((seg v 48 16 = gets (s_Pow.f (seg v 0 32)) 0 16) ∧ (seg v 64 16 = gets (s_FMul.f (seg v 48 16 ++ seg v 48 16)) 0 16) ∧ (v 80 = b2i ((seg v 64 16) == (seg v 0 16))) ∧ (v 81 = (if v 80 ≠ 0 then 0 else 1)) ∧ (seg v 82 16 = gets (s_FMul.f (seg v 48 16 ++ seg v 32 16)) 0 16) ∧ (v 98 = (s_Odd.f (seg v 82 16)).getD 0 0) ∧ (seg v 99 16 = gets (s_FNeg.f (seg v 82 16)) 0 16) ∧ (seg v 115 16 = gets (s_FMul.f (seg v 99 16 ++ seg v 99 16)) 0 16) ∧ (v 131 = b2i ((seg v 115 16) == (seg v 0 16)))) ∧ (True) ∧ (CondHold v q_root_3.asm = ((v 98 != 0) = true ∧ ((v 81 != 0) = true ∧ True))) ∧ outs_root_3.map (A.ev v) = (seg v 99 16 ++ [v 131]) :=
  Eq.mp (by kernel_rfl) (runQ (q := q_root_3.asm) (o := outs_root_3) (l := l_root) (g := g_root_3) (nin := 48) (top := 132) (by kernel_rfl) hx)

end
end Go.X

namespace Go.X

/-! ### the inverse, the root of -1, and halves -/

def shrL : List Int → List Int
  | [] => []
  | [a] => [a / 2]
  | a :: b :: r => (a / 2 + (b * 2147483648) % 4294967296) :: shrL (b :: r)

theorem shrL_val : ∀ {l : List Int}, InD 4294967296 l → ofD 4294967296 (shrL l) = ofD 4294967296 l / 2 ∧ InD 4294967296 (shrL l)
  | [], _ => ⟨rfl, trivial⟩
  | [a], h => by
    have h1 := h.1
    have h2 := h.2.1
    refine ⟨?_, ?_, ?_, trivial⟩
    · show a / 2 + 4294967296 * 0 = (a + 4294967296 * 0) / 2
      omega
    · show 0 ≤ a / 2; omega
    · show a / 2 < 4294967296; omega
  | a :: b :: r, h => by
    obtain ⟨e, d⟩ := shrL_val (l := b :: r) h.2.2
    have h1 := h.1
    have h2 := h.2.1
    refine ⟨?_, ?_, ?_, d⟩
    · show (a / 2 + (b * 2147483648) % 4294967296) + 4294967296 * ofD 4294967296 (shrL (b :: r)) = (a + 4294967296 * ofD 4294967296 (b :: r)) / 2
      rw [e]
      have : ofD 4294967296 (b :: r) = b + 4294967296 * ofD 4294967296 r := rfl
      rw [this]
      generalize ofD 4294967296 r = z
      omega
    · show 0 ≤ a / 2 + (b * 2147483648) % 4294967296; omega
    · show a / 2 + (b * 2147483648) % 4294967296 < 4294967296; omega

theorem shr16 {a0 a1 a2 a3 a4 a5 a6 a7 a8 a9 a10 a11 a12 a13 a14 a15 h0 h1 h2 h3 h4 h5 h6 h7 h8 h9 h10 h11 h12 h13 h14 h15 q0 y0 q1 y1 q2 y2 q3 y3 q4 y4 q5 y5 q6 y6 q7 y7 q8 y8 q9 y9 q10 y10 q11 y11 q12 y12 q13 y13 q14 y14 : Int} {T : Prop} {E : Int} (hd : [a0, a1, a2, a3, a4, a5, a6, a7, a8, a9, a10, a11, a12, a13, a14, a15] = toD 4294967296 16 E) (hE0 : 0 ≤ E) (hE1 : E < 4294967296 ^ 16) (h : h0 = a0 / 2 ∧ q0 = (a1 * 2147483648) % 4294967296 ∧ y0 = h0 + q0 ∧ h1 = a1 / 2 ∧ q1 = (a2 * 2147483648) % 4294967296 ∧ y1 = h1 + q1 ∧ h2 = a2 / 2 ∧ q2 = (a3 * 2147483648) % 4294967296 ∧ y2 = h2 + q2 ∧ h3 = a3 / 2 ∧ q3 = (a4 * 2147483648) % 4294967296 ∧ y3 = h3 + q3 ∧ h4 = a4 / 2 ∧ q4 = (a5 * 2147483648) % 4294967296 ∧ y4 = h4 + q4 ∧ h5 = a5 / 2 ∧ q5 = (a6 * 2147483648) % 4294967296 ∧ y5 = h5 + q5 ∧ h6 = a6 / 2 ∧ q6 = (a7 * 2147483648) % 4294967296 ∧ y6 = h6 + q6 ∧ h7 = a7 / 2 ∧ q7 = (a8 * 2147483648) % 4294967296 ∧ y7 = h7 + q7 ∧ h8 = a8 / 2 ∧ q8 = (a9 * 2147483648) % 4294967296 ∧ y8 = h8 + q8 ∧ h9 = a9 / 2 ∧ q9 = (a10 * 2147483648) % 4294967296 ∧ y9 = h9 + q9 ∧ h10 = a10 / 2 ∧ q10 = (a11 * 2147483648) % 4294967296 ∧ y10 = h10 + q10 ∧ h11 = a11 / 2 ∧ q11 = (a12 * 2147483648) % 4294967296 ∧ y11 = h11 + q11 ∧ h12 = a12 / 2 ∧ q12 = (a13 * 2147483648) % 4294967296 ∧ y12 = h12 + q12 ∧ h13 = a13 / 2 ∧ q13 = (a14 * 2147483648) % 4294967296 ∧ y13 = h13 + q13 ∧ h14 = a14 / 2 ∧ q14 = (a15 * 2147483648) % 4294967296 ∧ y14 = h14 + q14 ∧ h15 = a15 / 2 ∧ T) : [y0, y1, y2, y3, y4, y5, y6, y7, y8, y9, y10, y11, y12, y13, y14, h15] = toD 4294967296 16 (E / 2) ∧ T := by
  obtain ⟨eh0, eq0, ey0, eh1, eq1, ey1, eh2, eq2, ey2, eh3, eq3, ey3, eh4, eq4, ey4, eh5, eq5, ey5, eh6, eq6, ey6, eh7, eq7, ey7, eh8, eq8, ey8, eh9, eq9, ey9, eh10, eq10, ey10, eh11, eq11, ey11, eh12, eq12, ey12, eh13, eq13, ey13, eh14, eq14, ey14, eh15, hT⟩ := h
  refine ⟨?_, hT⟩
  have e : [y0, y1, y2, y3, y4, y5, y6, y7, y8, y9, y10, y11, y12, y13, y14, h15] = shrL [a0, a1, a2, a3, a4, a5, a6, a7, a8, a9, a10, a11, a12, a13, a14, a15] := by
    rw [ey0, eh0, eq0, ey1, eh1, eq1, ey2, eh2, eq2, ey3, eh3, eq3, ey4, eh4, eq4, ey5, eh5, eq5, ey6, eh6, eq6, ey7, eh7, eq7, ey8, eh8, eq8, ey9, eh9, eq9, ey10, eh10, eq10, ey11, eh11, eq11, ey12, eh12, eq12, ey13, eh13, eq13, ey14, eh14, eq14, eh15]; rfl
  have hi : InD 4294967296 [a0, a1, a2, a3, a4, a5, a6, a7, a8, a9, a10, a11, a12, a13, a14, a15] := by rw [hd]; exact toD_in (by decide) _ _
  obtain ⟨e1, d1⟩ := shrL_val hi
  rw [← e] at e1 d1
  refine toD_congr (by decide) d1 rfl ⟨0, ?_⟩
  rw [e1, hd, ofD_toD (by decide), Int.emod_eq_of_lt hE0 hE1]
  omega

theorem Minus_P {k : Int} (h0 : 0 ≤ k) (h1 : k < 4294967296) : s_Minus.f [4294967277, 4294967295, 4294967295, 4294967295, 4294967295, 4294967295, 4294967295, 2147483647, 0, 0, 0, 0, 0, 0, 0, 0, k, 0, 0, 0, 0, 0, 0, 0, 0, 0, 0, 0, 0, 0, 0, 0] = toD 4294967296 16 (57896044618658097711785492504343953926634992332820282019728792003956564819949 - k) := by
  have hk : InB (WB 16) [k, 0, 0, 0, 0, 0, 0, 0, 0, 0, 0, 0, 0, 0, 0, 0] := InD_InB (b := 4294967296) rfl ⟨h0, h1, by decide, by decide, by decide, by decide, by decide, by decide, by decide, by decide, by decide, by decide, by decide, by decide, by decide, by decide, by decide, by decide, by decide, by decide, by decide, by decide, by decide, by decide, by decide, by decide, by decide, by decide, by decide, by decide, by decide, by decide, trivial⟩
  have h := Minus_val _ (sub_in P_in hk)
  rw [List.take_left' (i := 16) rfl, List.drop_left' (i := 16) rfl, P_ofD] at h
  have e : ofD 4294967296 [k, 0, 0, 0, 0, 0, 0, 0, 0, 0, 0, 0, 0, 0, 0, 0] = k := by
    show k + 4294967296 * ofD 4294967296 (List.replicate 15 0) = k
    rw [tz]; omega
  rw [e] at h
  exact h

theorem Inv_val (x : Fp) : s_Inv.f (nF x) = nF (inv x) := by
  obtain ⟨v, -, hin, ⟨h16, h17, h33⟩, -, hf⟩ := E_Inv (nF x) (nF_in x)
  rw [Small_val (by decide) (by decide)] at h16
  have h16 : v 16 = 2 := h16
  rw [h16, Minus_P (by decide) (by decide), gets_all (toD_len _ _ _)] at h17
  have hE : ofD 4294967296 (toD 4294967296 16 (57896044618658097711785492504343953926634992332820282019728792003956564819949 - 2)) = ((pN - 2 : Nat) : Int) := by kernel_rfl
  rw [hin, h17, Pow_val x (fold_bo _) hE (by decide), gets_all (nF_len _)] at h33
  rw [hf, h33]; rfl

theorem lt600 {n k : Nat} (h : n < 2 ^ 254) (hk : 254 ≤ k) : n < 2 ^ k := Nat.lt_of_lt_of_le h (Nat.pow_le_pow_right (by decide) hk)

theorem two_pow : (2 : Fp) ^ ((pN - 1) / 4) = iF := by
  refine Fin.ext ?_
  rw [val_pow]
  have e : (2 : Fp).val = 2 := rfl
  have hlt : (pN - 1) / 4 < 2 ^ 600 := lt600 (k := 600) (by decide) (by decide)
  have h : pm 2 ((pN - 1) / 4) pN % pN = iF.val := by kernel_rfl
  rw [e, ← pm_eq hlt]
  exact h

theorem nF_two : nF 2 = [2, 0, 0, 0, 0, 0, 0, 0, 0, 0, 0, 0, 0, 0, 0, 0] := by kernel_rfl

theorem mone_val : s_mone.f [] = nF iF := by
  obtain ⟨v, -, -, ⟨h0, h1, he⟩, -, hf⟩ := E_mone [] trivial
  rw [Small_val (by decide) (by decide)] at h0
  have h0 : v 0 = 1 := h0
  rw [h0, Minus_P (by decide) (by decide), gets_all (toD_len _ _ _)] at h1
  obtain ⟨s1, he⟩ := shr16 h1 (by decide) (by decide) he
  obtain ⟨s2, he⟩ := shr16 s1 (by decide) (by decide) he
  obtain ⟨h109, h110⟩ := he
  rw [Small_val (by decide) (by decide)] at h109
  have h109 : v 109 = 2 := h109
  have ea : [v 109, 0, 0, 0, 0, 0, 0, 0, 0, 0, 0, 0, 0, 0, 0, 0, v 65, v 68, v 71, v 74, v 77, v 80, v 83, v 86, v 89, v 92, v 95, v 98, v 101, v 104, v 107, v 108] = nF 2 ++ toD 4294967296 16 ((57896044618658097711785492504343953926634992332820282019728792003956564819949 - 1) / 2 / 2) := by
    rw [← s2, h109, nF_two]; rfl
  have hE : ofD 4294967296 (toD 4294967296 16 ((57896044618658097711785492504343953926634992332820282019728792003956564819949 - 1) / 2 / 2)) = (((pN - 1) / 4 : Nat) : Int) := by kernel_rfl
  rw [ea, Pow_val 2 (fold_bo _) hE (by decide), gets_all (nF_len _), two_pow] at h110
  rw [hf, h110]

end Go.X

namespace Go.X

/-! ### the root of a number -/

def rR (xs : List Int) : List Int := s_Pow.f (xs.take 32)
def rS (xs : List Int) : List Int := if s_FMul.f (rR xs ++ rR xs) = xs.take 16 then rR xs else s_FMul.f (rR xs ++ xs.drop 32)
def rT (xs : List Int) : List Int := if (s_Odd.f (rS xs)).getD 0 0 ≠ 0 then s_FNeg.f (rS xs) else rS xs
def f_root (xs : List Int) : List Int := rT xs ++ [if s_FMul.f (rT xs ++ rT xs) = xs.take 16 then 1 else 0]

theorem root_parts {xs : List Int} (h : InB (WB 48) xs) : InB (WB 32) (xs.take 32) ∧ InB (WB 16) (xs.take 16) ∧ InB (WB 16) (xs.drop 32) := by
  obtain ⟨h1, h2⟩ := InB.split (a := WB 32) (b := WB 16) h
  obtain ⟨h3, -⟩ := InB.split (a := WB 16) (b := WB 32) h
  exact ⟨h1, h3, h2⟩

theorem rR_bd {xs : List Int} (h : InB (WB 48) xs) : InB (WB 16) (rR xs) :=
  s_Pow.ok _ _ (show s_Pow.bt (WB 32) = some (WB 16) by kernel_rfl) _ (root_parts h).1

theorem rS_bd {xs : List Int} (h : InB (WB 48) xs) : InB (WB 16) (rS xs) := by
  unfold rS
  split
  · exact rR_bd h
  · exact FMul_bd (rR_bd h) (root_parts h).2.2

theorem FNeg_bd {x : List Int} (hx : InB (WB 16) x) : InB (WB 16) (s_FNeg.f x) :=
  s_FNeg.ok _ _ (show s_FNeg.bt (WB 16) = some (WB 16) by kernel_rfl) _ hx

theorem rT_bd {xs : List Int} (h : InB (WB 48) xs) : InB (WB 16) (rT xs) := by
  unfold rT
  split
  · exact FNeg_bd (rS_bd h)
  · exact rS_bd h

theorem one_in {P : Prop} [Decidable P] : InB [(0, 1)] [if P then (1 : Int) else 0] := by
  by_cases h : P
  · rw [if_pos h]; exact ⟨by decide, by decide, trivial⟩
  · rw [if_neg h]; exact ⟨by decide, by decide, trivial⟩

def s_root : Sem := Sem.of f_root (WB 48) (WB 16 ++ [(0, 1)]) (fun _ h => InB.append (rT_bd h) one_in)

theorem b2i_beq {a b : List Int} : b2i (a == b) = if a = b then 1 else 0 := by
  by_cases h : a = b
  · subst h; rw [if_pos rfl, beq_self_eq_true]; rfl
  · rw [if_neg h, beq_eq_false_iff_ne.2 h]; rfl

theorem root_segs {v : Nat → Int} {xs : List Int} (hin : seg v 0 48 = xs) : seg v 0 32 = xs.take 32 ∧ seg v 0 16 = xs.take 16 ∧ seg v 32 16 = xs.drop 32 := by
  refine ⟨?_, ?_, ?_⟩
  · rw [← hin, seg_take _ (by decide)]
  · rw [← hin, seg_take _ (by decide)]
  · rw [← hin, seg_drop _ (by decide)]

theorem ne_t {t : Int} (h : t ≠ 0) : (t != 0) = true := bne_iff_ne.2 h
theorem ne_f {t : Int} (h : ¬ t ≠ 0) : (t != 0) = false := by
  have : t = 0 := by omega
  subst this; rfl

theorem cov_root : Covered l_root s_root q_root := by
  intro xs hx
  have hx : InB (WB 48) xs := hx
  have lR : (rR xs).length = 16 := (rR_bd hx).len
  have hs : s_root.f xs = f_root xs := rfl
  have lf : ∀ {a b : List Int}, InB (WB 16) a → InB (WB 16) b → (s_FMul.f (a ++ b)).length = 16 := fun ha hb => (FMul_bd ha hb).len
  by_cases h1 : s_FMul.f (rR xs ++ rR xs) = xs.take 16
  · have eS : rS xs = rR xs := if_pos h1
    by_cases h2 : (s_Odd.f (rR xs)).getD 0 0 ≠ 0
    · have eT : rT xs = s_FNeg.f (rR xs) := by unfold rT; rw [eS, if_pos h2]
      obtain ⟨v, hv, hin, ⟨h48, h64, h80, h81, h82, h83, h99, h115⟩, -, hc, ho⟩ := E_root_1 xs hx
      obtain ⟨s1, s2, s3⟩ := root_segs hin
      have h48 : seg v 48 16 = gets (rR xs) 0 16 := by rw [h48, s1]; rfl
      rw [gets_all lR] at h48
      rw [h48, gets_all (lf (rR_bd hx) (rR_bd hx)), h1] at h64
      rw [h64, s2, b2i_beq, if_pos rfl] at h80
      rw [h80, if_pos (by decide)] at h81
      rw [h48] at h82 h83
      rw [gets_all (show _ = 16 from (FNeg_bd (rR_bd hx)).len), ← eT] at h83
      rw [h83, gets_all (lf (rT_bd hx) (rT_bd hx))] at h99
      rw [h99, s2, b2i_beq] at h115
      refine ⟨q_root_1, List.mem_of_getElem? (show q_root[1]? = some q_root_1 from rfl), hx, ?_, ?_⟩
      · show CondHold (vals l_root g_root_1 xs) _
        rw [hv, hc, h82, h81]; exact ⟨ne_t h2, rfl, trivial⟩
      · show _ = outs_root_1.map (A.ev (vals l_root g_root_1 xs))
        rw [hv, ho, hs, h83, h115]; rfl
    · have eT : rT xs = rR xs := by unfold rT; rw [eS, if_neg h2]
      obtain ⟨v, hv, hin, ⟨h48, h64, h80, h81, h82, h83, h99⟩, -, hc, ho⟩ := E_root_0 xs hx
      obtain ⟨s1, s2, s3⟩ := root_segs hin
      have h48 : seg v 48 16 = gets (rR xs) 0 16 := by rw [h48, s1]; rfl
      rw [gets_all lR] at h48
      rw [h48, gets_all (lf (rR_bd hx) (rR_bd hx)), h1] at h64
      rw [h64, s2, b2i_beq, if_pos rfl] at h80
      rw [h80, if_pos (by decide)] at h81
      rw [h48] at h82 h83
      rw [gets_all (lf (rR_bd hx) (rR_bd hx))] at h83
      rw [h83, s2, b2i_beq] at h99
      refine ⟨q_root_0, List.mem_of_getElem? (show q_root[0]? = some q_root_0 from rfl), hx, ?_, ?_⟩
      · show CondHold (vals l_root g_root_0 xs) _
        rw [hv, hc, h82, h81]; exact ⟨ne_f h2, rfl, trivial⟩
      · show _ = outs_root_0.map (A.ev (vals l_root g_root_0 xs))
        rw [hv, ho, hs, h48, h99, f_root, eT]
  · have eS : rS xs = s_FMul.f (rR xs ++ xs.drop 32) := if_neg h1
    have lS := rS_bd hx
    by_cases h2 : (s_Odd.f (rS xs)).getD 0 0 ≠ 0
    · have eT : rT xs = s_FNeg.f (rS xs) := if_pos h2
      obtain ⟨v, hv, hin, ⟨h48, h64, h80, h81, h82, h98, h99, h115, h131⟩, -, hc, ho⟩ := E_root_3 xs hx
      obtain ⟨s1, s2, s3⟩ := root_segs hin
      have h48 : seg v 48 16 = gets (rR xs) 0 16 := by rw [h48, s1]; rfl
      rw [gets_all lR] at h48
      rw [h48, gets_all (lf (rR_bd hx) (rR_bd hx))] at h64
      rw [h64, s2, b2i_beq, if_neg h1] at h80
      rw [h80, if_neg (by decide)] at h81
      rw [h48, s3, ← eS, gets_all (show _ = 16 from lS.len)] at h82
      rw [h82] at h98 h99
      rw [gets_all (show _ = 16 from (FNeg_bd lS).len), ← eT] at h99
      rw [h99, gets_all (lf (rT_bd hx) (rT_bd hx))] at h115
      rw [h115, s2, b2i_beq] at h131
      refine ⟨q_root_3, List.mem_of_getElem? (show q_root[3]? = some q_root_3 from rfl), hx, ?_, ?_⟩
      · show CondHold (vals l_root g_root_3 xs) _
        rw [hv, hc, h98, h81]; exact ⟨ne_t h2, rfl, trivial⟩
      · show _ = outs_root_3.map (A.ev (vals l_root g_root_3 xs))
        rw [hv, ho, hs, h99, h131]; rfl
    · have eT : rT xs = rS xs := if_neg h2
      obtain ⟨v, hv, hin, ⟨h48, h64, h80, h81, h82, h98, h99, h115⟩, -, hc, ho⟩ := E_root_2 xs hx
      obtain ⟨s1, s2, s3⟩ := root_segs hin
      have h48 : seg v 48 16 = gets (rR xs) 0 16 := by rw [h48, s1]; rfl
      rw [gets_all lR] at h48
      rw [h48, gets_all (lf (rR_bd hx) (rR_bd hx))] at h64
      rw [h64, s2, b2i_beq, if_neg h1] at h80
      rw [h80, if_neg (by decide)] at h81
      rw [h48, s3, ← eS, gets_all (show _ = 16 from lS.len)] at h82
      rw [h82] at h98 h99
      rw [gets_all (lf lS lS)] at h99
      rw [h99, s2, b2i_beq] at h115
      refine ⟨q_root_2, List.mem_of_getElem? (show q_root[2]? = some q_root_2 from rfl), hx, ?_, ?_⟩
      · show CondHold (vals l_root g_root_2 xs) _
        rw [hv, hc, h98, h81]; exact ⟨ne_f h2, rfl, trivial⟩
      · show _ = outs_root_2.map (A.ev (vals l_root g_root_2 xs))
        rw [hv, ho, hs, h82, h115, f_root, eT]

/-! and its value -/

theorem nF_inj {x y : Fp} (h : nF x = nF y) : x = y := by
  have := congrArg (ofD 4294967296) h
  rw [ofD_nF, ofD_nF] at this
  exact Fp_ext this

theorem ite_nF {x y : Fp} : (if nF x = nF y then (1 : Int) else 0) = if x = y then 1 else 0 := by
  by_cases h : x = y
  · rw [if_pos h, if_pos (by rw [h])]
  · rw [if_neg h, if_neg (fun e => h (nF_inj e))]

def E8 : List Int := toD 4294967296 16 ((57896044618658097711785492504343953926634992332820282019728792003956564819949 + 3) / 2 / 2 / 2)

theorem root_val (x : Fp) : f_root (nF x ++ E8 ++ nF iF) = nF (rtF x) ++ [if rtF x * rtF x = x then 1 else 0] := by
  have hE : ofD 4294967296 E8 = (((pN + 3) / 8 : Nat) : Int) := by kernel_rfl
  have l8 : E8.length = 16 := toD_len _ _ _
  have l32 : (nF x ++ E8).length = 32 := by rw [List.length_append, nF_len, l8]
  have t32 : (nF x ++ E8 ++ nF iF).take 32 = nF x ++ E8 := List.take_left' l32
  have d32 : (nF x ++ E8 ++ nF iF).drop 32 = nF iF := List.drop_left' l32
  have t16 : (nF x ++ E8 ++ nF iF).take 16 = nF x := by rw [List.append_assoc]; exact List.take_left' (nF_len _)
  have hR : rR (nF x ++ E8 ++ nF iF) = nF (x ^ ((pN + 3) / 8)) := by
    unfold rR
    rw [t32, Pow_val x (e := E8) (fold_bo _) hE (by decide)]
  have hT : rT (nF x ++ E8 ++ nF iF) = nF (rtF x) := by
    have hS : rS (nF x ++ E8 ++ nF iF) = nF (if x ^ ((pN + 3) / 8) * x ^ ((pN + 3) / 8) = x then x ^ ((pN + 3) / 8) else x ^ ((pN + 3) / 8) * iF) := by
      unfold rS
      rw [hR, FMul_val, t16, d32]
      generalize x ^ ((pN + 3) / 8) = s
      by_cases h : s * s = x
      · rw [if_pos h, if_pos (by rw [h])]
      · rw [if_neg h, if_neg (fun e => h (nF_inj e)), FMul_val]
    unfold rT
    rw [hS, Odd_val]
    unfold rtF absF
    generalize (if x ^ ((pN + 3) / 8) * x ^ ((pN + 3) / 8) = x then x ^ ((pN + 3) / 8) else x ^ ((pN + 3) / 8) * iF) = s
    rw [List.getD_cons_zero]
    by_cases h : s.val % 2 = 1
    · rw [if_pos h, if_pos (by decide), if_pos h, FNeg_val]
    · rw [if_neg h, if_neg (by decide), if_neg h]
  unfold f_root
  rw [hT, t16, FMul_val, ite_nF]

end Go.X

namespace Go.X
set_option maxRecDepth 20000
noncomputable section
abbrev l_Ratio : List Sem := [s_Plus, s_Small, s_P, s_FMul, s_FNeg, s_Odd, s_Inv, s_mone, s_root]
def g_Ratio_0 : List (Nat × Ins) := (List.flatten [[(236, .eqs false (vs 0 16) (ls 0 16)), (235, .op2 .shr .u32 (.v 189) (.l 1)), (234, .op2 .or .u32 (.v 232) (.v 233)), (233, .op2 .shl .u32 (.v 189) (.l 31)), (232, .op2 .shr .u32 (.v 188) (.l 1)), (231, .op2 .or .u32 (.v 229) (.v 230)), (230, .op2 .shl .u32 (.v 188) (.l 31)), (229, .op2 .shr .u32 (.v 185) (.l 1)), (228, .op2 .or .u32 (.v 226) (.v 227)), (227, .op2 .shl .u32 (.v 185) (.l 31)), (226, .op2 .shr .u32 (.v 182) (.l 1)), (225, .op2 .or .u32 (.v 223) (.v 224)), (224, .op2 .shl .u32 (.v 182) (.l 31)), (223, .op2 .shr .u32 (.v 179) (.l 1)), (222, .op2 .or .u32 (.v 220) (.v 221)), (221, .op2 .shl .u32 (.v 179) (.l 31)), (220, .op2 .shr .u32 (.v 176) (.l 1)), (219, .op2 .or .u32 (.v 217) (.v 218)), (218, .op2 .shl .u32 (.v 176) (.l 31)), (217, .op2 .shr .u32 (.v 173) (.l 1)), (216, .op2 .or .u32 (.v 214) (.v 215)), (215, .op2 .shl .u32 (.v 173) (.l 31)), (214, .op2 .shr .u32 (.v 170) (.l 1)), (213, .op2 .or .u32 (.v 211) (.v 212)), (212, .op2 .shl .u32 (.v 170) (.l 31)), (211, .op2 .shr .u32 (.v 167) (.l 1)), (210, .op2 .or .u32 (.v 208) (.v 209)), (209, .op2 .shl .u32 (.v 167) (.l 31)), (208, .op2 .shr .u32 (.v 164) (.l 1)), (207, .op2 .or .u32 (.v 205) (.v 206)), (206, .op2 .shl .u32 (.v 164) (.l 31)), (205, .op2 .shr .u32 (.v 161) (.l 1)), (204, .op2 .or .u32 (.v 202) (.v 203)), (203, .op2 .shl .u32 (.v 161) (.l 31)), (202, .op2 .shr .u32 (.v 158) (.l 1)), (201, .op2 .or .u32 (.v 199) (.v 200)), (200, .op2 .shl .u32 (.v 158) (.l 31)), (199, .op2 .shr .u32 (.v 155) (.l 1)), (198, .op2 .or .u32 (.v 196) (.v 197)), (197, .op2 .shl .u32 (.v 155) (.l 31)), (196, .op2 .shr .u32 (.v 152) (.l 1)), (195, .op2 .or .u32 (.v 193) (.v 194)), (194, .op2 .shl .u32 (.v 152) (.l 31)), (193, .op2 .shr .u32 (.v 149) (.l 1)), (192, .op2 .or .u32 (.v 190) (.v 191)), (191, .op2 .shl .u32 (.v 149) (.l 31)), (190, .op2 .shr .u32 (.v 146) (.l 1)), (189, .op2 .shr .u32 (.v 143) (.l 1)), (188, .op2 .or .u32 (.v 186) (.v 187)), (187, .op2 .shl .u32 (.v 143) (.l 31)), (186, .op2 .shr .u32 (.v 142) (.l 1)), (185, .op2 .or .u32 (.v 183) (.v 184)), (184, .op2 .shl .u32 (.v 142) (.l 31)), (183, .op2 .shr .u32 (.v 139) (.l 1)), (182, .op2 .or .u32 (.v 180) (.v 181)), (181, .op2 .shl .u32 (.v 139) (.l 31)), (180, .op2 .shr .u32 (.v 136) (.l 1)), (179, .op2 .or .u32 (.v 177) (.v 178)), (178, .op2 .shl .u32 (.v 136) (.l 31)), (177, .op2 .shr .u32 (.v 133) (.l 1)), (176, .op2 .or .u32 (.v 174) (.v 175)), (175, .op2 .shl .u32 (.v 133) (.l 31)), (174, .op2 .shr .u32 (.v 130) (.l 1)), (173, .op2 .or .u32 (.v 171) (.v 172)), (172, .op2 .shl .u32 (.v 130) (.l 31)), (171, .op2 .shr .u32 (.v 127) (.l 1)), (170, .op2 .or .u32 (.v 168) (.v 169)), (169, .op2 .shl .u32 (.v 127) (.l 31)), (168, .op2 .shr .u32 (.v 124) (.l 1)), (167, .op2 .or .u32 (.v 165) (.v 166)), (166, .op2 .shl .u32 (.v 124) (.l 31)), (165, .op2 .shr .u32 (.v 121) (.l 1)), (164, .op2 .or .u32 (.v 162) (.v 163)), (163, .op2 .shl .u32 (.v 121) (.l 31)), (162, .op2 .shr .u32 (.v 118) (.l 1)), (161, .op2 .or .u32 (.v 159) (.v 160)), (160, .op2 .shl .u32 (.v 118) (.l 31)), (159, .op2 .shr .u32 (.v 115) (.l 1)), (158, .op2 .or .u32 (.v 156) (.v 157)), (157, .op2 .shl .u32 (.v 115) (.l 31)), (156, .op2 .shr .u32 (.v 112) (.l 1)), (155, .op2 .or .u32 (.v 153) (.v 154)), (154, .op2 .shl .u32 (.v 112) (.l 31)), (153, .op2 .shr .u32 (.v 109) (.l 1)), (152, .op2 .or .u32 (.v 150) (.v 151)), (151, .op2 .shl .u32 (.v 109) (.l 31)), (150, .op2 .shr .u32 (.v 106) (.l 1)), (149, .op2 .or .u32 (.v 147) (.v 148)), (148, .op2 .shl .u32 (.v 106) (.l 31)), (147, .op2 .shr .u32 (.v 103) (.l 1)), (146, .op2 .or .u32 (.v 144) (.v 145)), (145, .op2 .shl .u32 (.v 103) (.l 31)), (144, .op2 .shr .u32 (.v 100) (.l 1)), (143, .op2 .shr .u32 (.v 97) (.l 1)), (142, .op2 .or .u32 (.v 140) (.v 141)), (141, .op2 .shl .u32 (.v 97) (.l 31)), (140, .op2 .shr .u32 (.v 96) (.l 1)), (139, .op2 .or .u32 (.v 137) (.v 138)), (138, .op2 .shl .u32 (.v 96) (.l 31)), (137, .op2 .shr .u32 (.v 95) (.l 1)), (136, .op2 .or .u32 (.v 134) (.v 135)), (135, .op2 .shl .u32 (.v 95) (.l 31)), (134, .op2 .shr .u32 (.v 94) (.l 1)), (133, .op2 .or .u32 (.v 131) (.v 132)), (132, .op2 .shl .u32 (.v 94) (.l 31)), (131, .op2 .shr .u32 (.v 93) (.l 1)), (130, .op2 .or .u32 (.v 128) (.v 129)), (129, .op2 .shl .u32 (.v 93) (.l 31)), (128, .op2 .shr .u32 (.v 92) (.l 1)), (127, .op2 .or .u32 (.v 125) (.v 126)), (126, .op2 .shl .u32 (.v 92) (.l 31)), (125, .op2 .shr .u32 (.v 91) (.l 1)), (124, .op2 .or .u32 (.v 122) (.v 123)), (123, .op2 .shl .u32 (.v 91) (.l 31)), (122, .op2 .shr .u32 (.v 90) (.l 1)), (121, .op2 .or .u32 (.v 119) (.v 120)), (120, .op2 .shl .u32 (.v 90) (.l 31)), (119, .op2 .shr .u32 (.v 89) (.l 1)), (118, .op2 .or .u32 (.v 116) (.v 117)), (117, .op2 .shl .u32 (.v 89) (.l 31)), (116, .op2 .shr .u32 (.v 88) (.l 1)), (115, .op2 .or .u32 (.v 113) (.v 114)), (114, .op2 .shl .u32 (.v 88) (.l 31)), (113, .op2 .shr .u32 (.v 87) (.l 1)), (112, .op2 .or .u32 (.v 110) (.v 111)), (111, .op2 .shl .u32 (.v 87) (.l 31)), (110, .op2 .shr .u32 (.v 86) (.l 1)), (109, .op2 .or .u32 (.v 107) (.v 108)), (108, .op2 .shl .u32 (.v 86) (.l 31)), (107, .op2 .shr .u32 (.v 85) (.l 1)), (106, .op2 .or .u32 (.v 104) (.v 105)), (105, .op2 .shl .u32 (.v 85) (.l 31)), (104, .op2 .shr .u32 (.v 84) (.l 1)), (103, .op2 .or .u32 (.v 101) (.v 102)), (102, .op2 .shl .u32 (.v 84) (.l 31)), (101, .op2 .shr .u32 (.v 83) (.l 1)), (100, .op2 .or .u32 (.v 98) (.v 99)), (99, .op2 .shl .u32 (.v 83) (.l 31)), (98, .op2 .shr .u32 (.v 82) (.l 1))], apps 0 (List.flatten [[(.l 4294967277)], ls 4294967295 6, [(.l 2147483647)], ls 0 8, [(.v 81)], ls 0 15]) 82 16, [(81, .app 1 [(.l 3)] 0), (80, .app 5 (vs 64 16) 0)], apps 7 [] 64 16, apps 3 ((vs 0 16) ++ (vs 32 16)) 48 16, apps 6 (vs 16 16) 32 16])
def outs_Ratio_0 : List A := ((ls 0 16) ++ [(.l 1)])
def q_Ratio_0 : FPath := ⟨(bs 32 0 4294967295), g_Ratio_0, [.cond (.v 236) true, .pre 0 (List.flatten [[(.l 4294967277)], ls 4294967295 6, [(.l 2147483647)], ls 0 8, [(.v 81)], ls 0 15]), .pre 1 [(.l 3)], .pre 2 [], .cond (.v 80) false, .pre 5 (vs 64 16), .pre 7 [], .pre 3 ((vs 0 16) ++ (vs 32 16)), .pre 6 (vs 16 16)], outs_Ratio_0⟩
def g_Ratio_1 : List (Nat × Ins) := (List.flatten [[(237, .eqs false (vs 16 16) (ls 0 16)), (236, .eqs false (vs 0 16) (ls 0 16)), (235, .op2 .shr .u32 (.v 189) (.l 1)), (234, .op2 .or .u32 (.v 232) (.v 233)), (233, .op2 .shl .u32 (.v 189) (.l 31)), (232, .op2 .shr .u32 (.v 188) (.l 1)), (231, .op2 .or .u32 (.v 229) (.v 230)), (230, .op2 .shl .u32 (.v 188) (.l 31)), (229, .op2 .shr .u32 (.v 185) (.l 1)), (228, .op2 .or .u32 (.v 226) (.v 227)), (227, .op2 .shl .u32 (.v 185) (.l 31)), (226, .op2 .shr .u32 (.v 182) (.l 1)), (225, .op2 .or .u32 (.v 223) (.v 224)), (224, .op2 .shl .u32 (.v 182) (.l 31)), (223, .op2 .shr .u32 (.v 179) (.l 1)), (222, .op2 .or .u32 (.v 220) (.v 221)), (221, .op2 .shl .u32 (.v 179) (.l 31)), (220, .op2 .shr .u32 (.v 176) (.l 1)), (219, .op2 .or .u32 (.v 217) (.v 218)), (218, .op2 .shl .u32 (.v 176) (.l 31)), (217, .op2 .shr .u32 (.v 173) (.l 1)), (216, .op2 .or .u32 (.v 214) (.v 215)), (215, .op2 .shl .u32 (.v 173) (.l 31)), (214, .op2 .shr .u32 (.v 170) (.l 1)), (213, .op2 .or .u32 (.v 211) (.v 212)), (212, .op2 .shl .u32 (.v 170) (.l 31)), (211, .op2 .shr .u32 (.v 167) (.l 1)), (210, .op2 .or .u32 (.v 208) (.v 209)), (209, .op2 .shl .u32 (.v 167) (.l 31)), (208, .op2 .shr .u32 (.v 164) (.l 1)), (207, .op2 .or .u32 (.v 205) (.v 206)), (206, .op2 .shl .u32 (.v 164) (.l 31)), (205, .op2 .shr .u32 (.v 161) (.l 1)), (204, .op2 .or .u32 (.v 202) (.v 203)), (203, .op2 .shl .u32 (.v 161) (.l 31)), (202, .op2 .shr .u32 (.v 158) (.l 1)), (201, .op2 .or .u32 (.v 199) (.v 200)), (200, .op2 .shl .u32 (.v 158) (.l 31)), (199, .op2 .shr .u32 (.v 155) (.l 1)), (198, .op2 .or .u32 (.v 196) (.v 197)), (197, .op2 .shl .u32 (.v 155) (.l 31)), (196, .op2 .shr .u32 (.v 152) (.l 1)), (195, .op2 .or .u32 (.v 193) (.v 194)), (194, .op2 .shl .u32 (.v 152) (.l 31)), (193, .op2 .shr .u32 (.v 149) (.l 1)), (192, .op2 .or .u32 (.v 190) (.v 191)), (191, .op2 .shl .u32 (.v 149) (.l 31)), (190, .op2 .shr .u32 (.v 146) (.l 1)), (189, .op2 .shr .u32 (.v 143) (.l 1)), (188, .op2 .or .u32 (.v 186) (.v 187)), (187, .op2 .shl .u32 (.v 143) (.l 31)), (186, .op2 .shr .u32 (.v 142) (.l 1)), (185, .op2 .or .u32 (.v 183) (.v 184)), (184, .op2 .shl .u32 (.v 142) (.l 31)), (183, .op2 .shr .u32 (.v 139) (.l 1)), (182, .op2 .or .u32 (.v 180) (.v 181)), (181, .op2 .shl .u32 (.v 139) (.l 31)), (180, .op2 .shr .u32 (.v 136) (.l 1)), (179, .op2 .or .u32 (.v 177) (.v 178)), (178, .op2 .shl .u32 (.v 136) (.l 31)), (177, .op2 .shr .u32 (.v 133) (.l 1)), (176, .op2 .or .u32 (.v 174) (.v 175)), (175, .op2 .shl .u32 (.v 133) (.l 31)), (174, .op2 .shr .u32 (.v 130) (.l 1)), (173, .op2 .or .u32 (.v 171) (.v 172)), (172, .op2 .shl .u32 (.v 130) (.l 31)), (171, .op2 .shr .u32 (.v 127) (.l 1)), (170, .op2 .or .u32 (.v 168) (.v 169)), (169, .op2 .shl .u32 (.v 127) (.l 31)), (168, .op2 .shr .u32 (.v 124) (.l 1)), (167, .op2 .or .u32 (.v 165) (.v 166)), (166, .op2 .shl .u32 (.v 124) (.l 31)), (165, .op2 .shr .u32 (.v 121) (.l 1)), (164, .op2 .or .u32 (.v 162) (.v 163)), (163, .op2 .shl .u32 (.v 121) (.l 31)), (162, .op2 .shr .u32 (.v 118) (.l 1)), (161, .op2 .or .u32 (.v 159) (.v 160)), (160, .op2 .shl .u32 (.v 118) (.l 31)), (159, .op2 .shr .u32 (.v 115) (.l 1)), (158, .op2 .or .u32 (.v 156) (.v 157)), (157, .op2 .shl .u32 (.v 115) (.l 31)), (156, .op2 .shr .u32 (.v 112) (.l 1)), (155, .op2 .or .u32 (.v 153) (.v 154)), (154, .op2 .shl .u32 (.v 112) (.l 31)), (153, .op2 .shr .u32 (.v 109) (.l 1)), (152, .op2 .or .u32 (.v 150) (.v 151)), (151, .op2 .shl .u32 (.v 109) (.l 31)), (150, .op2 .shr .u32 (.v 106) (.l 1)), (149, .op2 .or .u32 (.v 147) (.v 148)), (148, .op2 .shl .u32 (.v 106) (.l 31)), (147, .op2 .shr .u32 (.v 103) (.l 1)), (146, .op2 .or .u32 (.v 144) (.v 145)), (145, .op2 .shl .u32 (.v 103) (.l 31)), (144, .op2 .shr .u32 (.v 100) (.l 1)), (143, .op2 .shr .u32 (.v 97) (.l 1)), (142, .op2 .or .u32 (.v 140) (.v 141)), (141, .op2 .shl .u32 (.v 97) (.l 31)), (140, .op2 .shr .u32 (.v 96) (.l 1)), (139, .op2 .or .u32 (.v 137) (.v 138)), (138, .op2 .shl .u32 (.v 96) (.l 31)), (137, .op2 .shr .u32 (.v 95) (.l 1)), (136, .op2 .or .u32 (.v 134) (.v 135)), (135, .op2 .shl .u32 (.v 95) (.l 31)), (134, .op2 .shr .u32 (.v 94) (.l 1)), (133, .op2 .or .u32 (.v 131) (.v 132)), (132, .op2 .shl .u32 (.v 94) (.l 31)), (131, .op2 .shr .u32 (.v 93) (.l 1)), (130, .op2 .or .u32 (.v 128) (.v 129)), (129, .op2 .shl .u32 (.v 93) (.l 31)), (128, .op2 .shr .u32 (.v 92) (.l 1)), (127, .op2 .or .u32 (.v 125) (.v 126)), (126, .op2 .shl .u32 (.v 92) (.l 31)), (125, .op2 .shr .u32 (.v 91) (.l 1)), (124, .op2 .or .u32 (.v 122) (.v 123)), (123, .op2 .shl .u32 (.v 91) (.l 31)), (122, .op2 .shr .u32 (.v 90) (.l 1)), (121, .op2 .or .u32 (.v 119) (.v 120)), (120, .op2 .shl .u32 (.v 90) (.l 31)), (119, .op2 .shr .u32 (.v 89) (.l 1)), (118, .op2 .or .u32 (.v 116) (.v 117)), (117, .op2 .shl .u32 (.v 89) (.l 31)), (116, .op2 .shr .u32 (.v 88) (.l 1)), (115, .op2 .or .u32 (.v 113) (.v 114)), (114, .op2 .shl .u32 (.v 88) (.l 31)), (113, .op2 .shr .u32 (.v 87) (.l 1)), (112, .op2 .or .u32 (.v 110) (.v 111)), (111, .op2 .shl .u32 (.v 87) (.l 31)), (110, .op2 .shr .u32 (.v 86) (.l 1)), (109, .op2 .or .u32 (.v 107) (.v 108)), (108, .op2 .shl .u32 (.v 86) (.l 31)), (107, .op2 .shr .u32 (.v 85) (.l 1)), (106, .op2 .or .u32 (.v 104) (.v 105)), (105, .op2 .shl .u32 (.v 85) (.l 31)), (104, .op2 .shr .u32 (.v 84) (.l 1)), (103, .op2 .or .u32 (.v 101) (.v 102)), (102, .op2 .shl .u32 (.v 84) (.l 31)), (101, .op2 .shr .u32 (.v 83) (.l 1)), (100, .op2 .or .u32 (.v 98) (.v 99)), (99, .op2 .shl .u32 (.v 83) (.l 31)), (98, .op2 .shr .u32 (.v 82) (.l 1))], apps 0 (List.flatten [[(.l 4294967277)], ls 4294967295 6, [(.l 2147483647)], ls 0 8, [(.v 81)], ls 0 15]) 82 16, [(81, .app 1 [(.l 3)] 0), (80, .app 5 (vs 64 16) 0)], apps 7 [] 64 16, apps 3 ((vs 0 16) ++ (vs 32 16)) 48 16, apps 6 (vs 16 16) 32 16])
def outs_Ratio_1 : List A := (ls 0 17)
def q_Ratio_1 : FPath := ⟨(bs 32 0 4294967295), g_Ratio_1, [.cond (.v 237) true, .cond (.v 236) false, .pre 0 (List.flatten [[(.l 4294967277)], ls 4294967295 6, [(.l 2147483647)], ls 0 8, [(.v 81)], ls 0 15]), .pre 1 [(.l 3)], .pre 2 [], .cond (.v 80) false, .pre 5 (vs 64 16), .pre 7 [], .pre 3 ((vs 0 16) ++ (vs 32 16)), .pre 6 (vs 16 16)], outs_Ratio_1⟩
def g_Ratio_2 : List (Nat × Ins) := (List.flatten [apps 8 ((vs 48 16) ++ [(.v 192), (.v 195), (.v 198), (.v 201), (.v 204), (.v 207), (.v 210), (.v 213), (.v 216), (.v 219), (.v 222), (.v 225), (.v 228), (.v 231), (.v 234), (.v 235)] ++ (vs 64 16)) 238 17, [(237, .eqs false (vs 16 16) (ls 0 16)), (236, .eqs false (vs 0 16) (ls 0 16)), (235, .op2 .shr .u32 (.v 189) (.l 1)), (234, .op2 .or .u32 (.v 232) (.v 233)), (233, .op2 .shl .u32 (.v 189) (.l 31)), (232, .op2 .shr .u32 (.v 188) (.l 1)), (231, .op2 .or .u32 (.v 229) (.v 230)), (230, .op2 .shl .u32 (.v 188) (.l 31)), (229, .op2 .shr .u32 (.v 185) (.l 1)), (228, .op2 .or .u32 (.v 226) (.v 227)), (227, .op2 .shl .u32 (.v 185) (.l 31)), (226, .op2 .shr .u32 (.v 182) (.l 1)), (225, .op2 .or .u32 (.v 223) (.v 224)), (224, .op2 .shl .u32 (.v 182) (.l 31)), (223, .op2 .shr .u32 (.v 179) (.l 1)), (222, .op2 .or .u32 (.v 220) (.v 221)), (221, .op2 .shl .u32 (.v 179) (.l 31)), (220, .op2 .shr .u32 (.v 176) (.l 1)), (219, .op2 .or .u32 (.v 217) (.v 218)), (218, .op2 .shl .u32 (.v 176) (.l 31)), (217, .op2 .shr .u32 (.v 173) (.l 1)), (216, .op2 .or .u32 (.v 214) (.v 215)), (215, .op2 .shl .u32 (.v 173) (.l 31)), (214, .op2 .shr .u32 (.v 170) (.l 1)), (213, .op2 .or .u32 (.v 211) (.v 212)), (212, .op2 .shl .u32 (.v 170) (.l 31)), (211, .op2 .shr .u32 (.v 167) (.l 1)), (210, .op2 .or .u32 (.v 208) (.v 209)), (209, .op2 .shl .u32 (.v 167) (.l 31)), (208, .op2 .shr .u32 (.v 164) (.l 1)), (207, .op2 .or .u32 (.v 205) (.v 206)), (206, .op2 .shl .u32 (.v 164) (.l 31)), (205, .op2 .shr .u32 (.v 161) (.l 1)), (204, .op2 .or .u32 (.v 202) (.v 203)), (203, .op2 .shl .u32 (.v 161) (.l 31)), (202, .op2 .shr .u32 (.v 158) (.l 1)), (201, .op2 .or .u32 (.v 199) (.v 200)), (200, .op2 .shl .u32 (.v 158) (.l 31)), (199, .op2 .shr .u32 (.v 155) (.l 1)), (198, .op2 .or .u32 (.v 196) (.v 197)), (197, .op2 .shl .u32 (.v 155) (.l 31)), (196, .op2 .shr .u32 (.v 152) (.l 1)), (195, .op2 .or .u32 (.v 193) (.v 194)), (194, .op2 .shl .u32 (.v 152) (.l 31)), (193, .op2 .shr .u32 (.v 149) (.l 1)), (192, .op2 .or .u32 (.v 190) (.v 191)), (191, .op2 .shl .u32 (.v 149) (.l 31)), (190, .op2 .shr .u32 (.v 146) (.l 1)), (189, .op2 .shr .u32 (.v 143) (.l 1)), (188, .op2 .or .u32 (.v 186) (.v 187)), (187, .op2 .shl .u32 (.v 143) (.l 31)), (186, .op2 .shr .u32 (.v 142) (.l 1)), (185, .op2 .or .u32 (.v 183) (.v 184)), (184, .op2 .shl .u32 (.v 142) (.l 31)), (183, .op2 .shr .u32 (.v 139) (.l 1)), (182, .op2 .or .u32 (.v 180) (.v 181)), (181, .op2 .shl .u32 (.v 139) (.l 31)), (180, .op2 .shr .u32 (.v 136) (.l 1)), (179, .op2 .or .u32 (.v 177) (.v 178)), (178, .op2 .shl .u32 (.v 136) (.l 31)), (177, .op2 .shr .u32 (.v 133) (.l 1)), (176, .op2 .or .u32 (.v 174) (.v 175)), (175, .op2 .shl .u32 (.v 133) (.l 31)), (174, .op2 .shr .u32 (.v 130) (.l 1)), (173, .op2 .or .u32 (.v 171) (.v 172)), (172, .op2 .shl .u32 (.v 130) (.l 31)), (171, .op2 .shr .u32 (.v 127) (.l 1)), (170, .op2 .or .u32 (.v 168) (.v 169)), (169, .op2 .shl .u32 (.v 127) (.l 31)), (168, .op2 .shr .u32 (.v 124) (.l 1)), (167, .op2 .or .u32 (.v 165) (.v 166)), (166, .op2 .shl .u32 (.v 124) (.l 31)), (165, .op2 .shr .u32 (.v 121) (.l 1)), (164, .op2 .or .u32 (.v 162) (.v 163)), (163, .op2 .shl .u32 (.v 121) (.l 31)), (162, .op2 .shr .u32 (.v 118) (.l 1)), (161, .op2 .or .u32 (.v 159) (.v 160)), (160, .op2 .shl .u32 (.v 118) (.l 31)), (159, .op2 .shr .u32 (.v 115) (.l 1)), (158, .op2 .or .u32 (.v 156) (.v 157)), (157, .op2 .shl .u32 (.v 115) (.l 31)), (156, .op2 .shr .u32 (.v 112) (.l 1)), (155, .op2 .or .u32 (.v 153) (.v 154)), (154, .op2 .shl .u32 (.v 112) (.l 31)), (153, .op2 .shr .u32 (.v 109) (.l 1)), (152, .op2 .or .u32 (.v 150) (.v 151)), (151, .op2 .shl .u32 (.v 109) (.l 31)), (150, .op2 .shr .u32 (.v 106) (.l 1)), (149, .op2 .or .u32 (.v 147) (.v 148)), (148, .op2 .shl .u32 (.v 106) (.l 31)), (147, .op2 .shr .u32 (.v 103) (.l 1)), (146, .op2 .or .u32 (.v 144) (.v 145)), (145, .op2 .shl .u32 (.v 103) (.l 31)), (144, .op2 .shr .u32 (.v 100) (.l 1)), (143, .op2 .shr .u32 (.v 97) (.l 1)), (142, .op2 .or .u32 (.v 140) (.v 141)), (141, .op2 .shl .u32 (.v 97) (.l 31)), (140, .op2 .shr .u32 (.v 96) (.l 1)), (139, .op2 .or .u32 (.v 137) (.v 138)), (138, .op2 .shl .u32 (.v 96) (.l 31)), (137, .op2 .shr .u32 (.v 95) (.l 1)), (136, .op2 .or .u32 (.v 134) (.v 135)), (135, .op2 .shl .u32 (.v 95) (.l 31)), (134, .op2 .shr .u32 (.v 94) (.l 1)), (133, .op2 .or .u32 (.v 131) (.v 132)), (132, .op2 .shl .u32 (.v 94) (.l 31)), (131, .op2 .shr .u32 (.v 93) (.l 1)), (130, .op2 .or .u32 (.v 128) (.v 129)), (129, .op2 .shl .u32 (.v 93) (.l 31)), (128, .op2 .shr .u32 (.v 92) (.l 1)), (127, .op2 .or .u32 (.v 125) (.v 126)), (126, .op2 .shl .u32 (.v 92) (.l 31)), (125, .op2 .shr .u32 (.v 91) (.l 1)), (124, .op2 .or .u32 (.v 122) (.v 123)), (123, .op2 .shl .u32 (.v 91) (.l 31)), (122, .op2 .shr .u32 (.v 90) (.l 1)), (121, .op2 .or .u32 (.v 119) (.v 120)), (120, .op2 .shl .u32 (.v 90) (.l 31)), (119, .op2 .shr .u32 (.v 89) (.l 1)), (118, .op2 .or .u32 (.v 116) (.v 117)), (117, .op2 .shl .u32 (.v 89) (.l 31)), (116, .op2 .shr .u32 (.v 88) (.l 1)), (115, .op2 .or .u32 (.v 113) (.v 114)), (114, .op2 .shl .u32 (.v 88) (.l 31)), (113, .op2 .shr .u32 (.v 87) (.l 1)), (112, .op2 .or .u32 (.v 110) (.v 111)), (111, .op2 .shl .u32 (.v 87) (.l 31)), (110, .op2 .shr .u32 (.v 86) (.l 1)), (109, .op2 .or .u32 (.v 107) (.v 108)), (108, .op2 .shl .u32 (.v 86) (.l 31)), (107, .op2 .shr .u32 (.v 85) (.l 1)), (106, .op2 .or .u32 (.v 104) (.v 105)), (105, .op2 .shl .u32 (.v 85) (.l 31)), (104, .op2 .shr .u32 (.v 84) (.l 1)), (103, .op2 .or .u32 (.v 101) (.v 102)), (102, .op2 .shl .u32 (.v 84) (.l 31)), (101, .op2 .shr .u32 (.v 83) (.l 1)), (100, .op2 .or .u32 (.v 98) (.v 99)), (99, .op2 .shl .u32 (.v 83) (.l 31)), (98, .op2 .shr .u32 (.v 82) (.l 1))], apps 0 (List.flatten [[(.l 4294967277)], ls 4294967295 6, [(.l 2147483647)], ls 0 8, [(.v 81)], ls 0 15]) 82 16, [(81, .app 1 [(.l 3)] 0), (80, .app 5 (vs 64 16) 0)], apps 7 [] 64 16, apps 3 ((vs 0 16) ++ (vs 32 16)) 48 16, apps 6 (vs 16 16) 32 16])
def outs_Ratio_2 : List A := ((vs 238 16) ++ [(.l 1)])
def q_Ratio_2 : FPath := ⟨(bs 32 0 4294967295), g_Ratio_2, [.cond (.v 254) true, .pre 8 ((vs 48 16) ++ [(.v 192), (.v 195), (.v 198), (.v 201), (.v 204), (.v 207), (.v 210), (.v 213), (.v 216), (.v 219), (.v 222), (.v 225), (.v 228), (.v 231), (.v 234), (.v 235)] ++ (vs 64 16)), .cond (.v 237) false, .cond (.v 236) false, .pre 0 (List.flatten [[(.l 4294967277)], ls 4294967295 6, [(.l 2147483647)], ls 0 8, [(.v 81)], ls 0 15]), .pre 1 [(.l 3)], .pre 2 [], .cond (.v 80) false, .pre 5 (vs 64 16), .pre 7 [], .pre 3 ((vs 0 16) ++ (vs 32 16)), .pre 6 (vs 16 16)], outs_Ratio_2⟩
def g_Ratio_3 : List (Nat × Ins) := (List.flatten [apps 8 ((vs 255 16) ++ [(.v 192), (.v 195), (.v 198), (.v 201), (.v 204), (.v 207), (.v 210), (.v 213), (.v 216), (.v 219), (.v 222), (.v 225), (.v 228), (.v 231), (.v 234), (.v 235)] ++ (vs 64 16)) 271 17, apps 3 (vs 48 32) 255 16, apps 8 ((vs 48 16) ++ [(.v 192), (.v 195), (.v 198), (.v 201), (.v 204), (.v 207), (.v 210), (.v 213), (.v 216), (.v 219), (.v 222), (.v 225), (.v 228), (.v 231), (.v 234), (.v 235)] ++ (vs 64 16)) 238 17, [(237, .eqs false (vs 16 16) (ls 0 16)), (236, .eqs false (vs 0 16) (ls 0 16)), (235, .op2 .shr .u32 (.v 189) (.l 1)), (234, .op2 .or .u32 (.v 232) (.v 233)), (233, .op2 .shl .u32 (.v 189) (.l 31)), (232, .op2 .shr .u32 (.v 188) (.l 1)), (231, .op2 .or .u32 (.v 229) (.v 230)), (230, .op2 .shl .u32 (.v 188) (.l 31)), (229, .op2 .shr .u32 (.v 185) (.l 1)), (228, .op2 .or .u32 (.v 226) (.v 227)), (227, .op2 .shl .u32 (.v 185) (.l 31)), (226, .op2 .shr .u32 (.v 182) (.l 1)), (225, .op2 .or .u32 (.v 223) (.v 224)), (224, .op2 .shl .u32 (.v 182) (.l 31)), (223, .op2 .shr .u32 (.v 179) (.l 1)), (222, .op2 .or .u32 (.v 220) (.v 221)), (221, .op2 .shl .u32 (.v 179) (.l 31)), (220, .op2 .shr .u32 (.v 176) (.l 1)), (219, .op2 .or .u32 (.v 217) (.v 218)), (218, .op2 .shl .u32 (.v 176) (.l 31)), (217, .op2 .shr .u32 (.v 173) (.l 1)), (216, .op2 .or .u32 (.v 214) (.v 215)), (215, .op2 .shl .u32 (.v 173) (.l 31)), (214, .op2 .shr .u32 (.v 170) (.l 1)), (213, .op2 .or .u32 (.v 211) (.v 212)), (212, .op2 .shl .u32 (.v 170) (.l 31)), (211, .op2 .shr .u32 (.v 167) (.l 1)), (210, .op2 .or .u32 (.v 208) (.v 209)), (209, .op2 .shl .u32 (.v 167) (.l 31)), (208, .op2 .shr .u32 (.v 164) (.l 1)), (207, .op2 .or .u32 (.v 205) (.v 206)), (206, .op2 .shl .u32 (.v 164) (.l 31)), (205, .op2 .shr .u32 (.v 161) (.l 1)), (204, .op2 .or .u32 (.v 202) (.v 203)), (203, .op2 .shl .u32 (.v 161) (.l 31)), (202, .op2 .shr .u32 (.v 158) (.l 1)), (201, .op2 .or .u32 (.v 199) (.v 200)), (200, .op2 .shl .u32 (.v 158) (.l 31)), (199, .op2 .shr .u32 (.v 155) (.l 1)), (198, .op2 .or .u32 (.v 196) (.v 197)), (197, .op2 .shl .u32 (.v 155) (.l 31)), (196, .op2 .shr .u32 (.v 152) (.l 1)), (195, .op2 .or .u32 (.v 193) (.v 194)), (194, .op2 .shl .u32 (.v 152) (.l 31)), (193, .op2 .shr .u32 (.v 149) (.l 1)), (192, .op2 .or .u32 (.v 190) (.v 191)), (191, .op2 .shl .u32 (.v 149) (.l 31)), (190, .op2 .shr .u32 (.v 146) (.l 1)), (189, .op2 .shr .u32 (.v 143) (.l 1)), (188, .op2 .or .u32 (.v 186) (.v 187)), (187, .op2 .shl .u32 (.v 143) (.l 31)), (186, .op2 .shr .u32 (.v 142) (.l 1)), (185, .op2 .or .u32 (.v 183) (.v 184)), (184, .op2 .shl .u32 (.v 142) (.l 31)), (183, .op2 .shr .u32 (.v 139) (.l 1)), (182, .op2 .or .u32 (.v 180) (.v 181)), (181, .op2 .shl .u32 (.v 139) (.l 31)), (180, .op2 .shr .u32 (.v 136) (.l 1)), (179, .op2 .or .u32 (.v 177) (.v 178)), (178, .op2 .shl .u32 (.v 136) (.l 31)), (177, .op2 .shr .u32 (.v 133) (.l 1)), (176, .op2 .or .u32 (.v 174) (.v 175)), (175, .op2 .shl .u32 (.v 133) (.l 31)), (174, .op2 .shr .u32 (.v 130) (.l 1)), (173, .op2 .or .u32 (.v 171) (.v 172)), (172, .op2 .shl .u32 (.v 130) (.l 31)), (171, .op2 .shr .u32 (.v 127) (.l 1)), (170, .op2 .or .u32 (.v 168) (.v 169)), (169, .op2 .shl .u32 (.v 127) (.l 31)), (168, .op2 .shr .u32 (.v 124) (.l 1)), (167, .op2 .or .u32 (.v 165) (.v 166)), (166, .op2 .shl .u32 (.v 124) (.l 31)), (165, .op2 .shr .u32 (.v 121) (.l 1)), (164, .op2 .or .u32 (.v 162) (.v 163)), (163, .op2 .shl .u32 (.v 121) (.l 31)), (162, .op2 .shr .u32 (.v 118) (.l 1)), (161, .op2 .or .u32 (.v 159) (.v 160)), (160, .op2 .shl .u32 (.v 118) (.l 31)), (159, .op2 .shr .u32 (.v 115) (.l 1)), (158, .op2 .or .u32 (.v 156) (.v 157)), (157, .op2 .shl .u32 (.v 115) (.l 31)), (156, .op2 .shr .u32 (.v 112) (.l 1)), (155, .op2 .or .u32 (.v 153) (.v 154)), (154, .op2 .shl .u32 (.v 112) (.l 31)), (153, .op2 .shr .u32 (.v 109) (.l 1)), (152, .op2 .or .u32 (.v 150) (.v 151)), (151, .op2 .shl .u32 (.v 109) (.l 31)), (150, .op2 .shr .u32 (.v 106) (.l 1)), (149, .op2 .or .u32 (.v 147) (.v 148)), (148, .op2 .shl .u32 (.v 106) (.l 31)), (147, .op2 .shr .u32 (.v 103) (.l 1)), (146, .op2 .or .u32 (.v 144) (.v 145)), (145, .op2 .shl .u32 (.v 103) (.l 31)), (144, .op2 .shr .u32 (.v 100) (.l 1)), (143, .op2 .shr .u32 (.v 97) (.l 1)), (142, .op2 .or .u32 (.v 140) (.v 141)), (141, .op2 .shl .u32 (.v 97) (.l 31)), (140, .op2 .shr .u32 (.v 96) (.l 1)), (139, .op2 .or .u32 (.v 137) (.v 138)), (138, .op2 .shl .u32 (.v 96) (.l 31)), (137, .op2 .shr .u32 (.v 95) (.l 1)), (136, .op2 .or .u32 (.v 134) (.v 135)), (135, .op2 .shl .u32 (.v 95) (.l 31)), (134, .op2 .shr .u32 (.v 94) (.l 1)), (133, .op2 .or .u32 (.v 131) (.v 132)), (132, .op2 .shl .u32 (.v 94) (.l 31)), (131, .op2 .shr .u32 (.v 93) (.l 1)), (130, .op2 .or .u32 (.v 128) (.v 129)), (129, .op2 .shl .u32 (.v 93) (.l 31)), (128, .op2 .shr .u32 (.v 92) (.l 1)), (127, .op2 .or .u32 (.v 125) (.v 126)), (126, .op2 .shl .u32 (.v 92) (.l 31)), (125, .op2 .shr .u32 (.v 91) (.l 1)), (124, .op2 .or .u32 (.v 122) (.v 123)), (123, .op2 .shl .u32 (.v 91) (.l 31)), (122, .op2 .shr .u32 (.v 90) (.l 1)), (121, .op2 .or .u32 (.v 119) (.v 120)), (120, .op2 .shl .u32 (.v 90) (.l 31)), (119, .op2 .shr .u32 (.v 89) (.l 1)), (118, .op2 .or .u32 (.v 116) (.v 117)), (117, .op2 .shl .u32 (.v 89) (.l 31)), (116, .op2 .shr .u32 (.v 88) (.l 1)), (115, .op2 .or .u32 (.v 113) (.v 114)), (114, .op2 .shl .u32 (.v 88) (.l 31)), (113, .op2 .shr .u32 (.v 87) (.l 1)), (112, .op2 .or .u32 (.v 110) (.v 111)), (111, .op2 .shl .u32 (.v 87) (.l 31)), (110, .op2 .shr .u32 (.v 86) (.l 1)), (109, .op2 .or .u32 (.v 107) (.v 108)), (108, .op2 .shl .u32 (.v 86) (.l 31)), (107, .op2 .shr .u32 (.v 85) (.l 1)), (106, .op2 .or .u32 (.v 104) (.v 105)), (105, .op2 .shl .u32 (.v 85) (.l 31)), (104, .op2 .shr .u32 (.v 84) (.l 1)), (103, .op2 .or .u32 (.v 101) (.v 102)), (102, .op2 .shl .u32 (.v 84) (.l 31)), (101, .op2 .shr .u32 (.v 83) (.l 1)), (100, .op2 .or .u32 (.v 98) (.v 99)), (99, .op2 .shl .u32 (.v 83) (.l 31)), (98, .op2 .shr .u32 (.v 82) (.l 1))], apps 0 (List.flatten [[(.l 4294967277)], ls 4294967295 6, [(.l 2147483647)], ls 0 8, [(.v 81)], ls 0 15]) 82 16, [(81, .app 1 [(.l 3)] 0), (80, .app 5 (vs 64 16) 0)], apps 7 [] 64 16, apps 3 ((vs 0 16) ++ (vs 32 16)) 48 16, apps 6 (vs 16 16) 32 16])
def outs_Ratio_3 : List A := ((vs 271 16) ++ [(.l 0)])
def q_Ratio_3 : FPath := ⟨(bs 32 0 4294967295), g_Ratio_3, [.pre 8 ((vs 255 16) ++ [(.v 192), (.v 195), (.v 198), (.v 201), (.v 204), (.v 207), (.v 210), (.v 213), (.v 216), (.v 219), (.v 222), (.v 225), (.v 228), (.v 231), (.v 234), (.v 235)] ++ (vs 64 16)), .pre 3 (vs 48 32), .cond (.v 254) false, .pre 8 ((vs 48 16) ++ [(.v 192), (.v 195), (.v 198), (.v 201), (.v 204), (.v 207), (.v 210), (.v 213), (.v 216), (.v 219), (.v 222), (.v 225), (.v 228), (.v 231), (.v 234), (.v 235)] ++ (vs 64 16)), .cond (.v 237) false, .cond (.v 236) false, .pre 0 (List.flatten [[(.l 4294967277)], ls 4294967295 6, [(.l 2147483647)], ls 0 8, [(.v 81)], ls 0 15]), .pre 1 [(.l 3)], .pre 2 [], .cond (.v 80) false, .pre 5 (vs 64 16), .pre 7 [], .pre 3 ((vs 0 16) ++ (vs 32 16)), .pre 6 (vs 16 16)], outs_Ratio_3⟩
def q_Ratio : List FPath := [q_Ratio_0, q_Ratio_1, q_Ratio_2, q_Ratio_3]
theorem E_Ratio_0 (xs : List Int) (hx : InB (bs 32 0 4294967295) xs) : ∃ v : Nat → Int, vals l_Ratio g_Ratio_0 xs = v ∧ seg v 0 32 = xs ∧ ((seg v 32 16 = gets (s_Inv.f (seg v 16 16)) 0 16) ∧ (seg v 48 16 = gets (s_FMul.f (seg v 0 16 ++ seg v 32 16)) 0 16) ∧ (seg v 64 16 = gets (s_mone.f ([] : List Int)) 0 16) ∧ (v 80 = (s_Odd.f (seg v 64 16)).getD 0 0) ∧ (v 81 = (s_Small.f ([3])).getD 0 0) ∧ (seg v 82 16 = gets (s_Plus.f ([4294967277, 4294967295, 4294967295, 4294967295, 4294967295, 4294967295, 4294967295, 2147483647, 0, 0, 0, 0, 0, 0, 0, 0, v 81, 0, 0, 0, 0, 0, 0, 0, 0, 0, 0, 0, 0, 0, 0, 0])) 0 16) ∧ (v 98 = (v 82) / 2) ∧ (v 99 = ((v 83) * 2147483648) % 4294967296) ∧ (v 100 = (v 98) + (v 99)) ∧ (v 101 = (v 83) / 2) ∧ (v 102 = ((v 84) * 2147483648) % 4294967296) ∧ (v 103 = (v 101) + (v 102)) ∧ (v 104 = (v 84) / 2) ∧ (v 105 = ((v 85) * 2147483648) % 4294967296) ∧ (v 106 = (v 104) + (v 105)) ∧ (v 107 = (v 85) / 2) ∧ (v 108 = ((v 86) * 2147483648) % 4294967296) ∧ (v 109 = (v 107) + (v 108)) ∧ (v 110 = (v 86) / 2) ∧ (v 111 = ((v 87) * 2147483648) % 4294967296) ∧ (v 112 = (v 110) + (v 111)) ∧ (v 113 = (v 87) / 2) ∧ (v 114 = ((v 88) * 2147483648) % 4294967296) ∧ (v 115 = (v 113) + (v 114)) ∧ (v 116 = (v 88) / 2) ∧ (v 117 = ((v 89) * 2147483648) % 4294967296) ∧ (v 118 = (v 116) + (v 117)) ∧ (v 119 = (v 89) / 2) ∧ (v 120 = ((v 90) * 2147483648) % 4294967296) ∧ (v 121 = (v 119) + (v 120)) ∧ (v 122 = (v 90) / 2) ∧ (v 123 = ((v 91) * 2147483648) % 4294967296) ∧ (v 124 = (v 122) + (v 123)) ∧ (v 125 = (v 91) / 2) ∧ (v 126 = ((v 92) * 2147483648) % 4294967296) ∧ (v 127 = (v 125) + (v 126)) ∧ (v 128 = (v 92) / 2) ∧ (v 129 = ((v 93) * 2147483648) % 4294967296) ∧ (v 130 = (v 128) + (v 129)) ∧ (v 131 = (v 93) / 2) ∧ (v 132 = ((v 94) * 2147483648) % 4294967296) ∧ (v 133 = (v 131) + (v 132)) ∧ (v 134 = (v 94) / 2) ∧ (v 135 = ((v 95) * 2147483648) % 4294967296) ∧ (v 136 = (v 134) + (v 135)) ∧ (v 137 = (v 95) / 2) ∧ (v 138 = ((v 96) * 2147483648) % 4294967296) ∧ (v 139 = (v 137) + (v 138)) ∧ (v 140 = (v 96) / 2) ∧ (v 141 = ((v 97) * 2147483648) % 4294967296) ∧ (v 142 = (v 140) + (v 141)) ∧ (v 143 = (v 97) / 2) ∧ (v 144 = (v 100) / 2) ∧ (v 145 = ((v 103) * 2147483648) % 4294967296) ∧ (v 146 = (v 144) + (v 145)) ∧ (v 147 = (v 103) / 2) ∧ (v 148 = ((v 106) * 2147483648) % 4294967296) ∧ (v 149 = (v 147) + (v 148)) ∧ (v 150 = (v 106) / 2) ∧ (v 151 = ((v 109) * 2147483648) % 4294967296) ∧ (v 152 = (v 150) + (v 151)) ∧ (v 153 = (v 109) / 2) ∧ (v 154 = ((v 112) * 2147483648) % 4294967296) ∧ (v 155 = (v 153) + (v 154)) ∧ (v 156 = (v 112) / 2) ∧ (v 157 = ((v 115) * 2147483648) % 4294967296) ∧ (v 158 = (v 156) + (v 157)) ∧ (v 159 = (v 115) / 2) ∧ (v 160 = ((v 118) * 2147483648) % 4294967296) ∧ (v 161 = (v 159) + (v 160)) ∧ (v 162 = (v 118) / 2) ∧ (v 163 = ((v 121) * 2147483648) % 4294967296) ∧ (v 164 = (v 162) + (v 163)) ∧ (v 165 = (v 121) / 2) ∧ (v 166 = ((v 124) * 2147483648) % 4294967296) ∧ (v 167 = (v 165) + (v 166)) ∧ (v 168 = (v 124) / 2) ∧ (v 169 = ((v 127) * 2147483648) % 4294967296) ∧ (v 170 = (v 168) + (v 169)) ∧ (v 171 = (v 127) / 2) ∧ (v 172 = ((v 130) * 2147483648) % 4294967296) ∧ (v 173 = (v 171) + (v 172)) ∧ (v 174 = (v 130) / 2) ∧ (v 175 = ((v 133) * 2147483648) % 4294967296) ∧ (v 176 = (v 174) + (v 175)) ∧ (v 177 = (v 133) / 2) ∧ (v 178 = ((v 136) * 2147483648) % 4294967296) ∧ (v 179 = (v 177) + (v 178)) ∧ (v 180 = (v 136) / 2) ∧ (v 181 = ((v 139) * 2147483648) % 4294967296) ∧ (v 182 = (v 180) + (v 181)) ∧ (v 183 = (v 139) / 2) ∧ (v 184 = ((v 142) * 2147483648) % 4294967296) ∧ (v 185 = (v 183) + (v 184)) ∧ (v 186 = (v 142) / 2) ∧ (v 187 = ((v 143) * 2147483648) % 4294967296) ∧ (v 188 = (v 186) + (v 187)) ∧ (v 189 = (v 143) / 2) ∧ (v 190 = (v 146) / 2) ∧ (v 191 = ((v 149) * 2147483648) % 4294967296) ∧ (v 192 = (v 190) + (v 191)) ∧ (v 193 = (v 149) / 2) ∧ (v 194 = ((v 152) * 2147483648) % 4294967296) ∧ (v 195 = (v 193) + (v 194)) ∧ (v 196 = (v 152) / 2) ∧ (v 197 = ((v 155) * 2147483648) % 4294967296) ∧ (v 198 = (v 196) + (v 197)) ∧ (v 199 = (v 155) / 2) ∧ (v 200 = ((v 158) * 2147483648) % 4294967296) ∧ (v 201 = (v 199) + (v 200)) ∧ (v 202 = (v 158) / 2) ∧ (v 203 = ((v 161) * 2147483648) % 4294967296) ∧ (v 204 = (v 202) + (v 203)) ∧ (v 205 = (v 161) / 2) ∧ (v 206 = ((v 164) * 2147483648) % 4294967296) ∧ (v 207 = (v 205) + (v 206)) ∧ (v 208 = (v 164) / 2) ∧ (v 209 = ((v 167) * 2147483648) % 4294967296) ∧ (v 210 = (v 208) + (v 209)) ∧ (v 211 = (v 167) / 2) ∧ (v 212 = ((v 170) * 2147483648) % 4294967296) ∧ (v 213 = (v 211) + (v 212)) ∧ (v 214 = (v 170) / 2) ∧ (v 215 = ((v 173) * 2147483648) % 4294967296) ∧ (v 216 = (v 214) + (v 215)) ∧ (v 217 = (v 173) / 2) ∧ (v 218 = ((v 176) * 2147483648) % 4294967296) ∧ (v 219 = (v 217) + (v 218)) ∧ (v 220 = (v 176) / 2) ∧ (v 221 = ((v 179) * 2147483648) % 4294967296) ∧ (v 222 = (v 220) + (v 221)) ∧ (v 223 = (v 179) / 2) ∧ (v 224 = ((v 182) * 2147483648) % 4294967296) ∧ (v 225 = (v 223) + (v 224)) ∧ (v 226 = (v 182) / 2) ∧ (v 227 = ((v 185) * 2147483648) % 4294967296) ∧ (v 228 = (v 226) + (v 227)) ∧ (v 229 = (v 185) / 2) ∧ (v 230 = ((v 188) * 2147483648) % 4294967296) ∧ (v 231 = (v 229) + (v 230)) ∧ (v 232 = (v 188) / 2) ∧ (v 233 = ((v 189) * 2147483648) % 4294967296) ∧ (v 234 = (v 232) + (v 233)) ∧ (v 235 = (v 189) / 2) ∧ (v 236 = b2i ((seg v 0 16) == ([0, 0, 0, 0, 0, 0, 0, 0, 0, 0, 0, 0, 0, 0, 0, 0])))) ∧ (True) ∧ (CondHold v q_Ratio_0.asm = ((v 236 != 0) = true ∧ ((v 80 != 0) = false ∧ True))) ∧ outs_Ratio_0.map (A.ev v) = ([0, 0, 0, 0, 0, 0, 0, 0, 0, 0, 0, 0, 0, 0, 0, 0, 1]) :=
  Eq.mp (by kernel_rfl) (runQ (q := q_Ratio_0.asm) (o := outs_Ratio_0) (l := l_Ratio) (g := g_Ratio_0) (nin := 32) (top := 237) (by kernel_rfl) hx)
theorem E_Ratio_1 (xs : List Int) (hx : InB (bs 32 0 4294967295) xs) : ∃ v : Nat → Int, vals l_Ratio g_Ratio_1 xs = v ∧ seg v 0 32 = xs ∧ ((seg v 32 16 = gets (s_Inv.f (seg v 16 16)) 0 16) ∧ (seg v 48 16 = gets (s_FMul.f (seg v 0 16 ++ seg v 32 16)) 0 16) ∧ (seg v 64 16 = gets (s_mone.f ([] : List Int)) 0 16) ∧ (v 80 = (s_Odd.f (seg v 64 16)).getD 0 0) ∧ (v 81 = (s_Small.f ([3])).getD 0 0) ∧ (seg v 82 16 = gets (s_Plus.f ([4294967277, 4294967295, 4294967295, 4294967295, 4294967295, 4294967295, 4294967295, 2147483647, 0, 0, 0, 0, 0, 0, 0, 0, v 81, 0, 0, 0, 0, 0, 0, 0, 0, 0, 0, 0, 0, 0, 0, 0])) 0 16) ∧ (v 98 = (v 82) / 2) ∧ (v 99 = ((v 83) * 2147483648) % 4294967296) ∧ (v 100 = (v 98) + (v 99)) ∧ (v 101 = (v 83) / 2) ∧ (v 102 = ((v 84) * 2147483648) % 4294967296) ∧ (v 103 = (v 101) + (v 102)) ∧ (v 104 = (v 84) / 2) ∧ (v 105 = ((v 85) * 2147483648) % 4294967296) ∧ (v 106 = (v 104) + (v 105)) ∧ (v 107 = (v 85) / 2) ∧ (v 108 = ((v 86) * 2147483648) % 4294967296) ∧ (v 109 = (v 107) + (v 108)) ∧ (v 110 = (v 86) / 2) ∧ (v 111 = ((v 87) * 2147483648) % 4294967296) ∧ (v 112 = (v 110) + (v 111)) ∧ (v 113 = (v 87) / 2) ∧ (v 114 = ((v 88) * 2147483648) % 4294967296) ∧ (v 115 = (v 113) + (v 114)) ∧ (v 116 = (v 88) / 2) ∧ (v 117 = ((v 89) * 2147483648) % 4294967296) ∧ (v 118 = (v 116) + (v 117)) ∧ (v 119 = (v 89) / 2) ∧ (v 120 = ((v 90) * 2147483648) % 4294967296) ∧ (v 121 = (v 119) + (v 120)) ∧ (v 122 = (v 90) / 2) ∧ (v 123 = ((v 91) * 2147483648) % 4294967296) ∧ (v 124 = (v 122) + (v 123)) ∧ (v 125 = (v 91) / 2) ∧ (v 126 = ((v 92) * 2147483648) % 4294967296) ∧ (v 127 = (v 125) + (v 126)) ∧ (v 128 = (v 92) / 2) ∧ (v 129 = ((v 93) * 2147483648) % 4294967296) ∧ (v 130 = (v 128) + (v 129)) ∧ (v 131 = (v 93) / 2) ∧ (v 132 = ((v 94) * 2147483648) % 4294967296) ∧ (v 133 = (v 131) + (v 132)) ∧ (v 134 = (v 94) / 2) ∧ (v 135 = ((v 95) * 2147483648) % 4294967296) ∧ (v 136 = (v 134) + (v 135)) ∧ (v 137 = (v 95) / 2) ∧ (v 138 = ((v 96) * 2147483648) % 4294967296) ∧ (v 139 = (v 137) + (v 138)) ∧ (v 140 = (v 96) / 2) ∧ (v 141 = ((v 97) * 2147483648) % 4294967296) ∧ (v 142 = (v 140) + (v 141)) ∧ (v 143 = (v 97) / 2) ∧ (v 144 = (v 100) / 2) ∧ (v 145 = ((v 103) * 2147483648) % 4294967296) ∧ (v 146 = (v 144) + (v 145)) ∧ (v 147 = (v 103) / 2) ∧ (v 148 = ((v 106) * 2147483648) % 4294967296) ∧ (v 149 = (v 147) + (v 148)) ∧ (v 150 = (v 106) / 2) ∧ (v 151 = ((v 109) * 2147483648) % 4294967296) ∧ (v 152 = (v 150) + (v 151)) ∧ (v 153 = (v 109) / 2) ∧ (v 154 = ((v 112) * 2147483648) % 4294967296) ∧ (v 155 = (v 153) + (v 154)) ∧ (v 156 = (v 112) / 2) ∧ (v 157 = ((v 115) * 2147483648) % 4294967296) ∧ (v 158 = (v 156) + (v 157)) ∧ (v 159 = (v 115) / 2) ∧ (v 160 = ((v 118) * 2147483648) % 4294967296) ∧ (v 161 = (v 159) + (v 160)) ∧ (v 162 = (v 118) / 2) ∧ (v 163 = ((v 121) * 2147483648) % 4294967296) ∧ (v 164 = (v 162) + (v 163)) ∧ (v 165 = (v 121) / 2) ∧ (v 166 = ((v 124) * 2147483648) % 4294967296) ∧ (v 167 = (v 165) + (v 166)) ∧ (v 168 = (v 124) / 2) ∧ (v 169 = ((v 127) * 2147483648) % 4294967296) ∧ (v 170 = (v 168) + (v 169)) ∧ (v 171 = (v 127) / 2) ∧ (v 172 = ((v 130) * 2147483648) % 4294967296) ∧ (v 173 = (v 171) + (v 172)) ∧ (v 174 = (v 130) / 2) ∧ (v 175 = ((v 133) * 2147483648) % 4294967296) ∧ (v 176 = (v 174) + (v 175)) ∧ (v 177 = (v 133) / 2) ∧ (v 178 = ((v 136) * 2147483648) % 4294967296) ∧ (v 179 = (v 177) + (v 178)) ∧ (v 180 = (v 136) / 2) ∧ (v 181 = ((v 139) * 2147483648) % 4294967296) ∧ (v 182 = (v 180) + (v 181)) ∧ (v 183 = (v 139) / 2) ∧ (v 184 = ((v 142) * 2147483648) % 4294967296) ∧ (v 185 = (v 183) + (v 184)) ∧ (v 186 = (v 142) / 2) ∧ (v 187 = ((v 143) * 2147483648) % 4294967296) ∧ (v 188 = (v 186) + (v 187)) ∧ (v 189 = (v 143) / 2) ∧ (v 190 = (v 146) / 2) ∧ (v 191 = ((v 149) * 2147483648) % 4294967296) ∧ (v 192 = (v 190) + (v 191)) ∧ (v 193 = (v 149) / 2) ∧ (v 194 = ((v 152) * 2147483648) % 4294967296) ∧ (v 195 = (v 193) + (v 194)) ∧ (v 196 = (v 152) / 2) ∧ (v 197 = ((v 155) * 2147483648) % 4294967296) ∧ (v 198 = (v 196) + (v 197)) ∧ (v 199 = (v 155) / 2) ∧ (v 200 = ((v 158) * 2147483648) % 4294967296) ∧ (v 201 = (v 199) + (v 200)) ∧ (v 202 = (v 158) / 2) ∧ (v 203 = ((v 161) * 2147483648) % 4294967296) ∧ (v 204 = (v 202) + (v 203)) ∧ (v 205 = (v 161) / 2) ∧ (v 206 = ((v 164) * 2147483648) % 4294967296) ∧ (v 207 = (v 205) + (v 206)) ∧ (v 208 = (v 164) / 2) ∧ (v 209 = ((v 167) * 2147483648) % 4294967296) ∧ (v 210 = (v 208) + (v 209)) ∧ (v 211 = (v 167) / 2) ∧ (v 212 = ((v 170) * 2147483648) % 4294967296) ∧ (v 213 = (v 211) + (v 212)) ∧ (v 214 = (v 170) / 2) ∧ (v 215 = ((v 173) * 2147483648) % 4294967296) ∧ (v 216 = (v 214) + (v 215)) ∧ (v 217 = (v 173) / 2) ∧ (v 218 = ((v 176) * 2147483648) % 4294967296) ∧ (v 219 = (v 217) + (v 218)) ∧ (v 220 = (v 176) / 2) ∧ (v 221 = ((v 179) * 2147483648) % 4294967296) ∧ (v 222 = (v 220) + (v 221)) ∧ (v 223 = (v 179) / 2) ∧ (v 224 = ((v 182) * 2147483648) % 4294967296) ∧ (v 225 = (v 223) + (v 224)) ∧ (v 226 = (v 182) / 2) ∧ (v 227 = ((v 185) * 2147483648) % 4294967296) ∧ (v 228 = (v 226) + (v 227)) ∧ (v 229 = (v 185) / 2) ∧ (v 230 = ((v 188) * 2147483648) % 4294967296) ∧ (v 231 = (v 229) + (v 230)) ∧ (v 232 = (v 188) / 2) ∧ (v 233 = ((v 189) * 2147483648) % 4294967296) ∧ (v 234 = (v 232) + (v 233)) ∧ (v 235 = (v 189) / 2) ∧ (v 236 = b2i ((seg v 0 16) == ([0, 0, 0, 0, 0, 0, 0, 0, 0, 0, 0, 0, 0, 0, 0, 0]))) ∧ (v 237 = b2i ((seg v 16 16) == ([0, 0, 0, 0, 0, 0, 0, 0, 0, 0, 0, 0, 0, 0, 0, 0])))) ∧ (True) ∧ (CondHold v q_Ratio_1.asm = ((v 237 != 0) = true ∧ ((v 236 != 0) = false ∧ ((v 80 != 0) = false ∧ True)))) ∧ outs_Ratio_1.map (A.ev v) = ([0, 0, 0, 0, 0, 0, 0, 0, 0, 0, 0, 0, 0, 0, 0, 0, 0]) :=
  Eq.mp (by kernel_rfl) (runQ (q := q_Ratio_1.asm) (o := outs_Ratio_1) (l := l_Ratio) (g := g_Ratio_1) (nin := 32) (top := 238) (by kernel_rfl) hx)
theorem E_Ratio_2 (xs : List Int) (hx : InB (bs 32 0 4294967295) xs) : ∃ v : Nat → Int, vals l_Ratio g_Ratio_2 xs = v ∧ seg v 0 32 = xs ∧ ((seg v 32 16 = gets (s_Inv.f (seg v 16 16)) 0 16) ∧ (seg v 48 16 = gets (s_FMul.f (seg v 0 16 ++ seg v 32 16)) 0 16) ∧ (seg v 64 16 = gets (s_mone.f ([] : List Int)) 0 16) ∧ (v 80 = (s_Odd.f (seg v 64 16)).getD 0 0) ∧ (v 81 = (s_Small.f ([3])).getD 0 0) ∧ (seg v 82 16 = gets (s_Plus.f ([4294967277, 4294967295, 4294967295, 4294967295, 4294967295, 4294967295, 4294967295, 2147483647, 0, 0, 0, 0, 0, 0, 0, 0, v 81, 0, 0, 0, 0, 0, 0, 0, 0, 0, 0, 0, 0, 0, 0, 0])) 0 16) ∧ (v 98 = (v 82) / 2) ∧ (v 99 = ((v 83) * 2147483648) % 4294967296) ∧ (v 100 = (v 98) + (v 99)) ∧ (v 101 = (v 83) / 2) ∧ (v 102 = ((v 84) * 2147483648) % 4294967296) ∧ (v 103 = (v 101) + (v 102)) ∧ (v 104 = (v 84) / 2) ∧ (v 105 = ((v 85) * 2147483648) % 4294967296) ∧ (v 106 = (v 104) + (v 105)) ∧ (v 107 = (v 85) / 2) ∧ (v 108 = ((v 86) * 2147483648) % 4294967296) ∧ (v 109 = (v 107) + (v 108)) ∧ (v 110 = (v 86) / 2) ∧ (v 111 = ((v 87) * 2147483648) % 4294967296) ∧ (v 112 = (v 110) + (v 111)) ∧ (v 113 = (v 87) / 2) ∧ (v 114 = ((v 88) * 2147483648) % 4294967296) ∧ (v 115 = (v 113) + (v 114)) ∧ (v 116 = (v 88) / 2) ∧ (v 117 = ((v 89) * 2147483648) % 4294967296) ∧ (v 118 = (v 116) + (v 117)) ∧ (v 119 = (v 89) / 2) ∧ (v 120 = ((v 90) * 2147483648) % 4294967296) ∧ (v 121 = (v 119) + (v 120)) ∧ (v 122 = (v 90) / 2) ∧ (v 123 = ((v 91) * 2147483648) % 4294967296) ∧ (v 124 = (v 122) + (v 123)) ∧ (v 125 = (v 91) / 2) ∧ (v 126 = ((v 92) * 2147483648) % 4294967296) ∧ (v 127 = (v 125) + (v 126)) ∧ (v 128 = (v 92) / 2) ∧ (v 129 = ((v 93) * 2147483648) % 4294967296) ∧ (v 130 = (v 128) + (v 129)) ∧ (v 131 = (v 93) / 2) ∧ (v 132 = ((v 94) * 2147483648) % 4294967296) ∧ (v 133 = (v 131) + (v 132)) ∧ (v 134 = (v 94) / 2) ∧ (v 135 = ((v 95) * 2147483648) % 4294967296) ∧ (v 136 = (v 134) + (v 135)) ∧ (v 137 = (v 95) / 2) ∧ (v 138 = ((v 96) * 2147483648) % 4294967296) ∧ (v 139 = (v 137) + (v 138)) ∧ (v 140 = (v 96) / 2) ∧ (v 141 = ((v 97) * 2147483648) % 4294967296) ∧ (v 142 = (v 140) + (v 141)) ∧ (v 143 = (v 97) / 2) ∧ (v 144 = (v 100) / 2) ∧ (v 145 = ((v 103) * 2147483648) % 4294967296) ∧ (v 146 = (v 144) + (v 145)) ∧ (v 147 = (v 103) / 2) ∧ (v 148 = ((v 106) * 2147483648) % 4294967296) ∧ (v 149 = (v 147) + (v 148)) ∧ (v 150 = (v 106) / 2) ∧ (v 151 = ((v 109) * 2147483648) % 4294967296) ∧ (v 152 = (v 150) + (v 151)) ∧ (v 153 = (v 109) / 2) ∧ (v 154 = ((v 112) * 2147483648) % 4294967296) ∧ (v 155 = (v 153) + (v 154)) ∧ (v 156 = (v 112) / 2) ∧ (v 157 = ((v 115) * 2147483648) % 4294967296) ∧ (v 158 = (v 156) + (v 157)) ∧ (v 159 = (v 115) / 2) ∧ (v 160 = ((v 118) * 2147483648) % 4294967296) ∧ (v 161 = (v 159) + (v 160)) ∧ (v 162 = (v 118) / 2) ∧ (v 163 = ((v 121) * 2147483648) % 4294967296) ∧ (v 164 = (v 162) + (v 163)) ∧ (v 165 = (v 121) / 2) ∧ (v 166 = ((v 124) * 2147483648) % 4294967296) ∧ (v 167 = (v 165) + (v 166)) ∧ (v 168 = (v 124) / 2) ∧ (v 169 = ((v 127) * 2147483648) % 4294967296) ∧ (v 170 = (v 168) + (v 169)) ∧ (v 171 = (v 127) / 2) ∧ (v 172 = ((v 130) * 2147483648) % 4294967296) ∧ (v 173 = (v 171) + (v 172)) ∧ (v 174 = (v 130) / 2) ∧ (v 175 = ((v 133) * 2147483648) % 4294967296) ∧ (v 176 = (v 174) + (v 175)) ∧ (v 177 = (v 133) / 2) ∧ (v 178 = ((v 136) * 2147483648) % 4294967296) ∧ (v 179 = (v 177) + (v 178)) ∧ (v 180 = (v 136) / 2) ∧ (v 181 = ((v 139) * 2147483648) % 4294967296) ∧ (v 182 = (v 180) + (v 181)) ∧ (v 183 = (v 139) / 2) ∧ (v 184 = ((v 142) * 2147483648) % 4294967296) ∧ (v 185 = (v 183) + (v 184)) ∧ (v 186 = (v 142) / 2) ∧ (v 187 = ((v 143) * 2147483648) % 4294967296) ∧ (v 188 = (v 186) + (v 187)) ∧ (v 189 = (v 143) / 2) ∧ (v 190 = (v 146) / 2) ∧ (v 191 = ((v 149) * 2147483648) % 4294967296) ∧ (v 192 = (v 190) + (v 191)) ∧ (v 193 = (v 149) / 2) ∧ (v 194 = ((v 152) * 2147483648) % 4294967296) ∧ (v 195 = (v 193) + (v 194)) ∧ (v 196 = (v 152) / 2) ∧ (v 197 = ((v 155) * 2147483648) % 4294967296) ∧ (v 198 = (v 196) + (v 197)) ∧ (v 199 = (v 155) / 2) ∧ (v 200 = ((v 158) * 2147483648) % 4294967296) ∧ (v 201 = (v 199) + (v 200)) ∧ (v 202 = (v 158) / 2) ∧ (v 203 = ((v 161) * 2147483648) % 4294967296) ∧ (v 204 = (v 202) + (v 203)) ∧ (v 205 = (v 161) / 2) ∧ (v 206 = ((v 164) * 2147483648) % 4294967296) ∧ (v 207 = (v 205) + (v 206)) ∧ (v 208 = (v 164) / 2) ∧ (v 209 = ((v 167) * 2147483648) % 4294967296) ∧ (v 210 = (v 208) + (v 209)) ∧ (v 211 = (v 167) / 2) ∧ (v 212 = ((v 170) * 2147483648) % 4294967296) ∧ (v 213 = (v 211) + (v 212)) ∧ (v 214 = (v 170) / 2) ∧ (v 215 = ((v 173) * 2147483648) % 4294967296) ∧ (v 216 = (v 214) + (v 215)) ∧ (v 217 = (v 173) / 2) ∧ (v 218 = ((v 176) * 2147483648) % 4294967296) ∧ (v 219 = (v 217) + (v 218)) ∧ (v 220 = (v 176) / 2) ∧ (v 221 = ((v 179) * 2147483648) % 4294967296) ∧ (v 222 = (v 220) + (v 221)) ∧ (v 223 = (v 179) / 2) ∧ (v 224 = ((v 182) * 2147483648) % 4294967296) ∧ (v 225 = (v 223) + (v 224)) ∧ (v 226 = (v 182) / 2) ∧ (v 227 = ((v 185) * 2147483648) % 4294967296) ∧ (v 228 = (v 226) + (v 227)) ∧ (v 229 = (v 185) / 2) ∧ (v 230 = ((v 188) * 2147483648) % 4294967296) ∧ (v 231 = (v 229) + (v 230)) ∧ (v 232 = (v 188) / 2) ∧ (v 233 = ((v 189) * 2147483648) % 4294967296) ∧ (v 234 = (v 232) + (v 233)) ∧ (v 235 = (v 189) / 2) ∧ (v 236 = b2i ((seg v 0 16) == ([0, 0, 0, 0, 0, 0, 0, 0, 0, 0, 0, 0, 0, 0, 0, 0]))) ∧ (v 237 = b2i ((seg v 16 16) == ([0, 0, 0, 0, 0, 0, 0, 0, 0, 0, 0, 0, 0, 0, 0, 0]))) ∧ (seg v 238 17 = gets (s_root.f (seg v 48 16 ++ [v 192, v 195, v 198, v 201, v 204, v 207, v 210, v 213, v 216, v 219, v 222, v 225, v 228, v 231, v 234, v 235] ++ seg v 64 16)) 0 17)) ∧ (True) ∧ (CondHold v q_Ratio_2.asm = ((v 254 != 0) = true ∧ ((v 237 != 0) = false ∧ ((v 236 != 0) = false ∧ ((v 80 != 0) = false ∧ True))))) ∧ outs_Ratio_2.map (A.ev v) = (seg v 238 16 ++ [1]) :=
  Eq.mp (by kernel_rfl) (runQ (q := q_Ratio_2.asm) (o := outs_Ratio_2) (l := l_Ratio) (g := g_Ratio_2) (nin := 32) (top := 255) (by kernel_rfl) hx)
theorem E_Ratio_3 (xs : List Int) (hx : InB (bs 32 0 4294967295) xs) : ∃ v : Nat → Int, vals l_Ratio g_Ratio_3 xs = v ∧ seg v 0 32 = xs ∧ ((seg v 32 16 = gets (s_Inv.f (seg v 16 16)) 0 16) ∧ (seg v 48 16 = gets (s_FMul.f (seg v 0 16 ++ seg v 32 16)) 0 16) ∧ (seg v 64 16 = gets (s_mone.f ([] : List Int)) 0 16) ∧ (v 80 = (s_Odd.f (seg v 64 16)).getD 0 0) ∧ (v 81 = (s_Small.f ([3])).getD 0 0) ∧ (seg v 82 16 = gets (s_Plus.f ([4294967277, 4294967295, 4294967295, 4294967295, 4294967295, 4294967295, 4294967295, 2147483647, 0, 0, 0, 0, 0, 0, 0, 0, v 81, 0, 0, 0, 0, 0, 0, 0, 0, 0, 0, 0, 0, 0, 0, 0])) 0 16) ∧ (v 98 = (v 82) / 2) ∧ (v 99 = ((v 83) * 2147483648) % 4294967296) ∧ (v 100 = (v 98) + (v 99)) ∧ (v 101 = (v 83) / 2) ∧ (v 102 = ((v 84) * 2147483648) % 4294967296) ∧ (v 103 = (v 101) + (v 102)) ∧ (v 104 = (v 84) / 2) ∧ (v 105 = ((v 85) * 2147483648) % 4294967296) ∧ (v 106 = (v 104) + (v 105)) ∧ (v 107 = (v 85) / 2) ∧ (v 108 = ((v 86) * 2147483648) % 4294967296) ∧ (v 109 = (v 107) + (v 108)) ∧ (v 110 = (v 86) / 2) ∧ (v 111 = ((v 87) * 2147483648) % 4294967296) ∧ (v 112 = (v 110) + (v 111)) ∧ (v 113 = (v 87) / 2) ∧ (v 114 = ((v 88) * 2147483648) % 4294967296) ∧ (v 115 = (v 113) + (v 114)) ∧ (v 116 = (v 88) / 2) ∧ (v 117 = ((v 89) * 2147483648) % 4294967296) ∧ (v 118 = (v 116) + (v 117)) ∧ (v 119 = (v 89) / 2) ∧ (v 120 = ((v 90) * 2147483648) % 4294967296) ∧ (v 121 = (v 119) + (v 120)) ∧ (v 122 = (v 90) / 2) ∧ (v 123 = ((v 91) * 2147483648) % 4294967296) ∧ (v 124 = (v 122) + (v 123)) ∧ (v 125 = (v 91) / 2) ∧ (v 126 = ((v 92) * 2147483648) % 4294967296) ∧ (v 127 = (v 125) + (v 126)) ∧ (v 128 = (v 92) / 2) ∧ (v 129 = ((v 93) * 2147483648) % 4294967296) ∧ (v 130 = (v 128) + (v 129)) ∧ (v 131 = (v 93) / 2) ∧ (v 132 = ((v 94) * 2147483648) % 4294967296) ∧ (v 133 = (v 131) + (v 132)) ∧ (v 134 = (v 94) / 2) ∧ (v 135 = ((v 95) * 2147483648) % 4294967296) ∧ (v 136 = (v 134) + (v 135)) ∧ (v 137 = (v 95) / 2) ∧ (v 138 = ((v 96) * 2147483648) % 4294967296) ∧ (v 139 = (v 137) + (v 138)) ∧ (v 140 = (v 96) / 2) ∧ (v 141 = ((v 97) * 2147483648) % 4294967296) ∧ (v 142 = (v 140) + (v 141)) ∧ (v 143 = (v 97) / 2) ∧ (v 144 = (v 100) / 2) ∧ (v 145 = ((v 103) * 2147483648) % 4294967296) ∧ (v 146 = (v 144) + (v 145)) ∧ (v 147 = (v 103) / 2) ∧ (v 148 = ((v 106) * 2147483648) % 4294967296) ∧ (v 149 = (v 147) + (v 148)) ∧ (v 150 = (v 106) / 2) ∧ (v 151 = ((v 109) * 2147483648) % 4294967296) ∧ (v 152 = (v 150) + (v 151)) ∧ (v 153 = (v 109) / 2) ∧ (v 154 = ((v 112) * 2147483648) % 4294967296) ∧ (v 155 = (v 153) + (v 154)) ∧ (v 156 = (v 112) / 2) ∧ (v 157 = ((v 115) * 2147483648) % 4294967296) ∧ (v 158 = (v 156) + (v 157)) ∧ (v 159 = (v 115) / 2) ∧ (v 160 = ((v 118) * 2147483648) % 4294967296) ∧ (v 161 = (v 159) + (v 160)) ∧ (v 162 = (v 118) / 2) ∧ (v 163 = ((v 121) * 2147483648) % 4294967296) ∧ (v 164 = (v 162) + (v 163)) ∧ (v 165 = (v 121) / 2) ∧ (v 166 = ((v 124) * 2147483648) % 4294967296) ∧ (v 167 = (v 165) + (v 166)) ∧ (v 168 = (v 124) / 2) ∧ (v 169 = ((v 127) * 2147483648) % 4294967296) ∧ (v 170 = (v 168) + (v 169)) ∧ (v 171 = (v 127) / 2) ∧ (v 172 = ((v 130) * 2147483648) % 4294967296) ∧ (v 173 = (v 171) + (v 172)) ∧ (v 174 = (v 130) / 2) ∧ (v 175 = ((v 133) * 2147483648) % 4294967296) ∧ (v 176 = (v 174) + (v 175)) ∧ (v 177 = (v 133) / 2) ∧ (v 178 = ((v 136) * 2147483648) % 4294967296) ∧ (v 179 = (v 177) + (v 178)) ∧ (v 180 = (v 136) / 2) ∧ (v 181 = ((v 139) * 2147483648) % 4294967296) ∧ (v 182 = (v 180) + (v 181)) ∧ (v 183 = (v 139) / 2) ∧ (v 184 = ((v 142) * 2147483648) % 4294967296) ∧ (v 185 = (v 183) + (v 184)) ∧ (v 186 = (v 142) / 2) ∧ (v 187 = ((v 143) * 2147483648) % 4294967296) ∧ (v 188 = (v 186) + (v 187)) ∧ (v 189 = (v 143) / 2) ∧ (v 190 = (v 146) / 2) ∧ (v 191 = ((v 149) * 2147483648) % 4294967296) ∧ (v 192 = (v 190) + (v 191)) ∧ (v 193 = (v 149) / 2) ∧ (v 194 = ((v 152) * 2147483648) % 4294967296) ∧ (v 195 = (v 193) + (v 194)) ∧ (v 196 = (v 152) / 2) ∧ (v 197 = ((v 155) * 2147483648) % 4294967296) ∧ (v 198 = (v 196) + (v 197)) ∧ (v 199 = (v 155) / 2) ∧ (v 200 = ((v 158) * 2147483648) % 4294967296) ∧ (v 201 = (v 199) + (v 200)) ∧ (v 202 = (v 158) / 2) ∧ (v 203 = ((v 161) * 2147483648) % 4294967296) ∧ (v 204 = (v 202) + (v 203)) ∧ (v 205 = (v 161) / 2) ∧ (v 206 = ((v 164) * 2147483648) % 4294967296) ∧ (v 207 = (v 205) + (v 206)) ∧ (v 208 = (v 164) / 2) ∧ (v 209 = ((v 167) * 2147483648) % 4294967296) ∧ (v 210 = (v 208) + (v 209)) ∧ (v 211 = (v 167) / 2) ∧ (v 212 = ((v 170) * 2147483648) % 4294967296) ∧ (v 213 = (v 211) + (v 212)) ∧ (v 214 = (v 170) / 2) ∧ (v 215 = ((v 173) * 2147483648) % 4294967296) ∧ (v 216 = (v 214) + (v 215)) ∧ (v 217 = (v 173) / 2) ∧ (v 218 = ((v 176) * 2147483648) % 4294967296) ∧ (v 219 = (v 217) + (v 218)) ∧ (v 220 = (v 176) / 2) ∧ (v 221 = ((v 179) * 2147483648) % 4294967296) ∧ (v 222 = (v 220) + (v 221)) ∧ (v 223 = (v 179) / 2) ∧ (v 224 = ((v 182) * 2147483648) % 4294967296) ∧ (v 225 = (v 223) + (v 224)) ∧ (v 226 = (v 182) / 2) ∧ (v 227 = ((v 185) * 2147483648) % 4294967296) ∧ (v 228 = (v 226) + (v 227)) ∧ (v 229 = (v 185) / 2) ∧ (v 230 = ((v 188) * 2147483648) % 4294967296) ∧ (v 231 = (v 229) + (v 230)) ∧ (v 232 = (v 188) / 2) ∧ (v 233 = ((v 189) * 2147483648) % 4294967296) ∧ (v 234 = (v 232) + (v 233)) ∧ (v 235 = (v 189) / 2) ∧ (v 236 = b2i ((seg v 0 16) == ([0, 0, 0, 0, 0, 0, 0, 0, 0, 0, 0, 0, 0, 0, 0, 0]))) ∧ (v 237 = b2i ((seg v 16 16) == ([0, 0, 0, 0, 0, 0, 0, 0, 0, 0, 0, 0, 0, 0, 0, 0]))) ∧ (seg v 238 17 = gets (s_root.f (seg v 48 16 ++ [v 192, v 195, v 198, v 201, v 204, v 207, v 210, v 213, v 216, v 219, v 222, v 225, v 228, v 231, v 234, v 235] ++ seg v 64 16)) 0 17) ∧ (seg v 255 16 = gets (s_FMul.f (seg v 48 32)) 0 16) ∧ (seg v 271 17 = gets (s_root.f (seg v 255 16 ++ [v 192, v 195, v 198, v 201, v 204, v 207, v 210, v 213, v 216, v 219, v 222, v 225, v 228, v 231, v 234, v 235] ++ seg v 64 16)) 0 17)) ∧ (True) ∧ (CondHold v q_Ratio_3.asm = ((v 254 != 0) = false ∧ ((v 237 != 0) = false ∧ ((v 236 != 0) = false ∧ ((v 80 != 0) = false ∧ True))))) ∧ outs_Ratio_3.map (A.ev v) = (seg v 271 16 ++ [0]) :=
  Eq.mp (by kernel_rfl) (runQ (q := q_Ratio_3.asm) (o := outs_Ratio_3) (l := l_Ratio) (g := g_Ratio_3) (nin := 32) (top := 288) (by kernel_rfl) hx)

end
end Go.X
