/-
  A part of the proof of Ytkjhclknbkleoaa: texts M33, LG2. No conditions.
-/
import Derived.Test.YtkjhclknbkleoaaV19
set_option maxRecDepth 20000
namespace Go.X

/-! ### the ends of the law of coordinates -/

theorem add_comm_F (a b : Fp) : a + b = b + a := by grind

section
variable {F : Fns} {pr : Prs} {v : Nat → Int} {b c : List Int} (C : Cx6 F pr b c)
variable {p0 p1 p2 p3 t : Nat} {X Y Z T : Fp} (q0 : seg v p0 16 = nF X) (q1 : seg v p1 16 = nF Y) (q2 : seg v p2 16 = nF Z) (q3 : seg v p3 16 = nF T) (h5 : seg v 5 16 = nF dF)
include C q0 q1 q2 q3 h5

theorem finT {Q : Prop} (hf : F 12 = sp_iFrom.f) (hp : pr 12 = sp_iFrom.pre) (hn : onE X Y Z T) (hz : Z ≠ 0) (r : Tl1 F v p0 p1 p2 p3 t (Tl2 F v t (TlT F v p0 p1 p2 p3 t))) (hQ : Q) :
    ATlT pr v p0 p1 p2 p3 t (ATl2 pr v t (ATl1 pr v p0 p1 p2 p3 Q)) ∧ v (t + 343) = 1 := by
  obtain ⟨r, a1, k0, k1, k2, k3, h96⟩ := Tl1_val C q0 q1 q2 q3 r
  have c1 : X * Y = Z * T := by rw [hn.2]; exact Fin.mul_comm _ _
  rw [if_pos c1] at h96
  obtain ⟨r, a2, h145⟩ := Tl2_val C h5 k0 k1 k2 k3 (by rw [h96]; rfl) r
  have c2 : Y * Y - X * X = Z * Z + dF * (T * T) := by rw [hn.1]; exact add_comm_F _ _
  rw [if_pos c2] at h145
  exact TlT_val C q0 q1 q2 q3 hf hp hn hz (onE_nz hn hz) h5 (by rw [h145]; rfl) r (a2 _ (a1 _ hQ))

theorem finF1 {Q : Prop} (hp : pr 12 = sp_iFromF.pre) (hn : ¬ onE X Y Z T) (hc : ¬ X * Y = Z * T) (r : Tl1 F v p0 p1 p2 p3 t (TlF F v p0 p1 p2 p3 (t + 97))) (hQ : Q) :
    ATlF pr v p0 p1 p2 p3 (t + 97) (decide (Z = 0)) (((v (t + 96) != 0) = false) ∧ ATl1 pr v p0 p1 p2 p3 Q) := by
  have _ := h5
  obtain ⟨r, a1, k0, k1, k2, k3, h96⟩ := Tl1_val C q0 q1 q2 q3 r
  rw [if_neg hc] at h96
  exact TlF_val C q0 q1 q2 q3 hp hn r ⟨by rw [h96]; rfl, a1 _ hQ⟩

theorem finF2 {Q : Prop} (hp : pr 12 = sp_iFromF.pre) (hn : ¬ onE X Y Z T) (hc : X * Y = Z * T) (r : Tl1 F v p0 p1 p2 p3 t (Tl2 F v t (TlF F v p0 p1 p2 p3 (t + 146)))) (hQ : Q) :
    ATlF pr v p0 p1 p2 p3 (t + 146) (decide (Z = 0)) (((v (t + 145) != 0) = false) ∧ ATl2 pr v t (ATl1 pr v p0 p1 p2 p3 Q)) := by
  obtain ⟨r, a1, k0, k1, k2, k3, h96⟩ := Tl1_val C q0 q1 q2 q3 r
  rw [if_pos hc] at h96
  obtain ⟨r, a2, h145⟩ := Tl2_val C h5 k0 k1 k2 k3 (by rw [h96]; rfl) r
  have c2 : ¬ Y * Y - X * X = Z * Z + dF * (T * T) := by
    intro e
    refine hn ⟨?_, ?_⟩
    · rw [e]; exact add_comm_F _ _
    · rw [hc]; exact Fin.mul_comm _ _
  rw [if_neg c2] at h145
  exact TlF_val C q0 q1 q2 q3 hp hn r ⟨by rw [h145]; rfl, a2 _ (a1 _ hQ)⟩
end

/-- the head and the middle together -/
theorem hd_md {F : Fns} {pr : Prs} {v : Nat → Int} {b c : List Int} (C : Cx6 F pr b c) {R : Prop} {k : Int} (h : Hd F v (Md F v k R)) (h2 : (v 2 != 0) = false) (h4 : (v 4 != 0) = false) (hk : chg (v 0) = k) (hk4 : k < 4) :
    R ∧ AMd pr v (AHd pr v) ∧ seg v 5 16 = nF dF ∧ seg v 237 16 = nF (lawPt b).x ∧ seg v 261 16 = nF (lawPt b).y ∧ seg v 285 16 = nF 1 ∧ seg v 309 16 = nF ((lawPt b).x * (lawPt b).y) ∧ seg v 407 16 = nF (eF c) := by
  obtain ⟨r, ah, h5, hX, hY, hZ, hT, h364, h365⟩ := Hd_val C h h2 h4
  rw [decide_eq_true (by omega)] at h365
  obtain ⟨r, am, h407⟩ := Md_val C r (h364.trans hk) (by rw [h365]; rfl)
  exact ⟨r, am _ ah, h5, hX, hY, hZ, hT, h407⟩

theorem hd_no {F : Fns} {pr : Prs} {v : Nat → Int} {b c : List Int} (C : Cx6 F pr b c) {R : Prop} (h : Hd F v R) (h2 : (v 2 != 0) = false) (h4 : (v 4 != 0) = false) (hk : 4 ≤ chg (v 0)) :
    R ∧ (((v 365 != 0) = false) ∧ AHd pr v) ∧ seg v 5 16 = nF dF ∧ seg v 237 16 = nF (lawPt b).x ∧ seg v 261 16 = nF (lawPt b).y ∧ seg v 285 16 = nF 1 ∧ seg v 309 16 = nF ((lawPt b).x * (lawPt b).y) := by
  obtain ⟨r, ah, h5, hX, hY, hZ, hT, -, h365⟩ := Hd_val C h h2 h4
  rw [decide_eq_false (by omega)] at h365
  exact ⟨r, ⟨by rw [h365]; rfl, ah⟩, h5, hX, hY, hZ, hT⟩

end Go.X

set_option maxRecDepth 20000
namespace Go.X.Y
open Go.Proofs

/-! ### the law of coordinates -/

section
variable {a0 : Option Addr} {len0 cap0 : Nat} {z0 : List Int} {a1 : Option Addr} {len1 cap1 : Nat} {z1 : List Int} {w : World}

def sp_pt (b : List Int) : SemP := ⟨fun _ => pL (lawPt b) ++ lawB b, fun xs => xs = nF dF⟩

theorem pt_yes {b : List Int} (hp : isPt b) : lawPt b = ⟨xF (eF b) (sgB b), eF b, 1⟩ ∧ lawB b = b := by
  unfold lawPt lawB
  exact ⟨if_pos hp, if_pos hp⟩
theorem pt_no {b : List Int} (hp : ¬ isPt b) : lawPt b = Pt.mul dF (s_Of32.f b ++ Z8) Bpt ∧ lawB b = encB (lawPt b).x (lawPt b).y := by
  unfold lawB
  refine ⟨?_, if_neg hp⟩
  unfold lawPt
  exact if_neg hp

theorem good_ptA (h0 : SOk w a0 len0 cap0 z0) : GoodP (W2 a0 len0 cap0 a1 len1 cap1 w) T_ptA (sp_pt (pad 32 len0 z0)) := by
  refine lawP_sound (ts := [T_Of32, T_Dec, T_Enc, T_Base, T_cTimes, T_szA]) (l := [s_Of32.toP, s_Dec.toP, s_Enc.toP, s_Base.toP, s_cTimes.toP, (sA h0).toP]) (W := W2 a0 len0 cap0 a1 len1 cap1 w)
    ⟨(good_Of32 _).toP, (good_Dec _).toP, (good_Enc _).toP, (good_Base _).toP, (good_cTimes _).toP, (good_szA h0).toP, trivial⟩ (show 6 ≤ 1000000 by decide) Try.func26 Try.call26 (by kernel_rfl) rfl ?_
  intro xs hlen hx
  have hx : xs = nF dF := hx
  have hb : InB (BB 32) (pad 32 len0 z0) := pad_in h0.len h0.bytes
  have hf : (sp_pt (pad 32 len0 z0)).f xs = pL (lawPt (pad 32 len0 z0)) ++ lawB (pad 32 len0 z0) := rfl
  by_cases hp : isPt (pad 32 len0 z0)
  · refine ⟨_, _, _, _, r_ptA_0, w_ptA_0, ?_⟩
    intro ρ hin hst
    obtain ⟨e16, e48⟩ := E_ptA_0 hst
    have hs := seg_of (n := 16) hlen hin
    rw [hx] at hs
    have e16 : seg ρ 16 32 = gets (pad 32 len0 z0) 0 32 := e16
    rw [gets_all (show _ = 32 from hb.len)] at e16
    have a48 : seg ρ 0 48 = seg ρ 0 16 ++ seg ρ 16 32 := seg_add ρ 16 32 0
    have e48 : seg ρ 48 34 = gets (f_Dec (seg ρ 0 48)) 0 34 := e48
    rw [a48, hs, e16, (Dec_val hb).trans (if_pos hp), gets_all (by rw [List.length_append, List.length_append, nF_len, nF_len]; rfl)] at e48
    obtain ⟨k1, k2⟩ := seg_two (n := 32) (m := 2) e48 (by rw [List.length_append, nF_len, nF_len])
    have k80 : ρ 80 = 1 := (List.cons.inj k2).1
    have k81 : ρ 81 = 1 := (List.cons.inj (List.cons.inj k2).2).1
    refine ⟨out_of (ρ := ρ) (ft := ft_ptA_0.outs) ?_, A_ptA_0 ⟨by rw [k81]; rfl, ?_, trivial, trivial⟩⟩
    · have h1 : ∀ v : Nat → Int, ft_ptA_0.outs.map (A.ev v) = seg v 48 32 ++ ([v 80, 0, 0, 0, 0, 0, 0, 0, 0, 0, 0, 0, 0, 0, 0, 0] ++ seg v 16 32) := fun v => by kernel_rfl
      rw [h1, k1, k80, e16, hf, (pt_yes hp).1, (pt_yes hp).2]
      show (nF _ ++ (nF _ ++ nF 1)) ++ _ = _
      rw [nF_one]; simp only [List.append_assoc]
    · show InB (WB 16 ++ BB 32) (seg ρ 0 48)
      rw [a48, hs, e16]; exact InB.append (nF_in _) hb
  · refine ⟨_, _, _, _, r_ptA_1, w_ptA_1, ?_⟩
    intro ρ hin hst
    obtain ⟨e16, e48, e82, e90, e123, e171⟩ := E_ptA_1 hst
    have hs := seg_of (n := 16) hlen hin
    rw [hx] at hs
    have e16 : seg ρ 16 32 = gets (pad 32 len0 z0) 0 32 := e16
    rw [gets_all (show _ = 32 from hb.len)] at e16
    have a48 : seg ρ 0 48 = seg ρ 0 16 ++ seg ρ 16 32 := seg_add ρ 16 32 0
    have e48 : seg ρ 48 34 = gets (f_Dec (seg ρ 0 48)) 0 34 := e48
    rw [a48, hs, e16, (Dec_val hb).trans (if_neg hp), gets_all (List.length_replicate ..)] at e48
    have k81 : ρ 81 = 0 := by
      have := seg_getD (v := ρ) (n := 34) (x := 48) 33 (by decide)
      rw [e48] at this
      exact this.symm
    have h8 := of32_in hb
    have e82 : seg ρ 82 8 = gets (s_Of32.f (seg ρ 16 32)) 0 8 := e82
    rw [e16, gets_all (show _ = 8 from h8.len)] at e82
    have e90 : seg ρ 90 33 = gets (s_Base.f (seg ρ 0 16)) 0 33 := e90
    rw [hs, Base_val, gets_all (by rw [List.length_append, List.length_append, nF_len, nF_len]; rfl)] at e90
    have hE : InB (WB 16) (s_Of32.f (pad 32 len0 z0) ++ Z8) := InB.append (a := WB 8) (b := WB 8) h8 Z8_in
    have ha : seg ρ 0 16 ++ seg ρ 82 8 ++ [0, 0, 0, 0, 0, 0, 0, 0] ++ seg ρ 90 33 ++ [0, 0, 0, 0, 0, 0, 0, 0, 0, 0, 0, 0, 0, 0, 0] = nF dF ++ ((s_Of32.f (pad 32 len0 z0) ++ Z8) ++ pL Bpt) := by
      rw [hs, e82, e90, ← base_pL]
      show _ = nF dF ++ ((s_Of32.f (pad 32 len0 z0) ++ [0, 0, 0, 0, 0, 0, 0, 0]) ++ _)
      simp only [List.append_assoc]
    have e123 : seg ρ 123 48 = gets (s_cTimes.f (seg ρ 0 16 ++ seg ρ 82 8 ++ [0, 0, 0, 0, 0, 0, 0, 0] ++ seg ρ 90 33 ++ [0, 0, 0, 0, 0, 0, 0, 0, 0, 0, 0, 0, 0, 0, 0])) 0 48 := e123
    rw [ha, cTimes_val _ _ hE, gets_all (pL_len _), ← (pt_no hp).1] at e123
    have e171 : seg ρ 171 32 = gets (f_Enc (seg ρ 0 16 ++ seg ρ 123 48)) 0 32 := e171
    have hn : f_Enc (nF dF ++ pL (lawPt (pad 32 len0 z0))) = lawB (pad 32 len0 z0) := by
      rw [(pt_no hp).2]; exact Enc_val (nF_len _) _ _ _
    rw [hs, e123, hn, gets_all (show _ = 32 from (lawB_in hb).len)] at e171
    refine ⟨out_of (ρ := ρ) (ft := ft_ptA_1.outs) ?_, A_ptA_1 ⟨?_, ?_, ?_, ?_, by rw [k81]; rfl, ?_, trivial, trivial⟩⟩
    · have h1 : ∀ v : Nat → Int, ft_ptA_1.outs.map (A.ev v) = seg v 123 48 ++ seg v 171 32 := fun v => by kernel_rfl
      rw [h1, e123, e171, hf]
    · show InB (WB 64) (seg ρ 0 16 ++ seg ρ 123 48)
      rw [hs, e123]; exact InB.append (a := WB 16) (b := WB 48) (nF_in _) (pL_in _)
    · show InB (WB 80) _
      rw [ha]; exact InB.append (a := WB 16) (b := WB 64) (nF_in _) (InB.append (a := WB 16) (b := WB 48) hE (pL_in _))
    · show InB (WB 16) (seg ρ 0 16)
      rw [hs]; exact nF_in _
    · show InB (BB 32) (seg ρ 16 32)
      rw [e16]; exact hb
    · show InB (WB 16 ++ BB 32) (seg ρ 0 48)
      rw [a48, hs, e16]; exact InB.append (nF_in _) hb

abbrev l_FT (h0 : SOk w a0 len0 cap0 z0) (h1 : SOk w a1 len1 cap1 z1) (sp : SemP) : List SemP := [s_NBytes.toP, s_Of32.toP, s_Field.toP, s_FAdd.toP, s_FSub.toP, s_FMul.toP, s_same32.toP, s_Edw.toP, s_Enc.toP, s_cD.toP, s_cSame.toP, sp_iExt, sp, (sA h0).toP, (sB h1).toP, sp_pt (pad 32 len0 z0)]

theorem cx_FT (h0 : SOk w a0 len0 cap0 z0) (h1 : SOk w a1 len1 cap1 z1) (sp : SemP) (gl : Nat → Nat) : Cx6 (tabFP gl (l_FT h0 h1 sp)) (tabPP (l_FT h0 h1 sp)) (pad 32 len0 z0) (pad 32 len1 z1) where
  hb := pad_in h0.len h0.bytes
  hc := pad_in h1.len h1.bytes
  f0 := rfl
  f1 := rfl
  f3 := rfl
  f4 := rfl
  f5 := rfl
  f6 := rfl
  f7 := rfl
  f9 := Edw_val
  f10 := rfl
  f12 := rfl
  f13 := rfl
  f16 := rfl
  f17 := rfl
  p0 := rfl
  p1 := rfl
  p3 := rfl
  p4 := rfl
  p5 := rfl
  p6 := rfl
  p7 := rfl
  p9 := trivial
  p10 := rfl
  p11 := rfl
  p12 := rfl
  p13 := rfl
  p16 := trivial
  p17 := rfl

theorem big_no {ρ : Nat → Int} {x y len : Nat} (h1 : ρ x = (len : Int)) (h2 : ρ y = op2 .gtr .i64 (ρ x) 2147483647) (g : ¬ (len : Int) > 2147483647) : (ρ y != 0) = false := by
  rw [h2, h1, gtr_b, decide_eq_false g]; rfl
theorem big_yes {ρ : Nat → Int} {x y len : Nat} (h1 : ρ x = (len : Int)) (h2 : ρ y = op2 .gtr .i64 (ρ x) 2147483647) (g : (len : Int) > 2147483647) : (ρ y != 0) = true := by
  rw [h2, h1, gtr_b, decide_eq_true g]; rfl

def i64b (n : Int) : Prop := -9223372036854775808 ≤ n ∧ n ≤ 9223372036854775807
def sp_FT (b c : List Int) : SemP := ⟨fun _ => [1], fun xs => i64b (xs.getD 0 0) ∧ onK b c (chg (xs.getD 0 0))⟩
def sp_FF (b c : List Int) : SemP := ⟨fun _ => [1], fun xs => i64b (xs.getD 0 0) ∧ ¬ onK b c (chg (xs.getD 0 0))⟩

theorem onK_0 {b c : List Int} : onK b c 0 = onE (eF c) (lawPt b).y 1 ((lawPt b).x * (lawPt b).y) := by
  unfold onK
  rw [if_pos rfl, if_neg (by decide), if_neg (by decide), if_neg (by decide)]
theorem onK_1 {b c : List Int} : onK b c 1 = onE (lawPt b).x (eF c) 1 ((lawPt b).x * (lawPt b).y) := by
  unfold onK
  rw [if_neg (by decide), if_pos rfl, if_neg (by decide), if_neg (by decide)]
theorem onK_2 {b c : List Int} : onK b c 2 = onE (lawPt b).x (lawPt b).y (eF c) ((lawPt b).x * (lawPt b).y) := by
  unfold onK
  rw [if_neg (by decide), if_neg (by decide), if_pos rfl, if_neg (by decide)]
theorem onK_3 {b c : List Int} : onK b c 3 = onE (lawPt b).x (lawPt b).y 1 (eF c) := by
  unfold onK
  rw [if_neg (by decide), if_neg (by decide), if_neg (by decide), if_pos rfl]
theorem onK_4 {b c : List Int} {k : Int} (h : 4 ≤ k) : onK b c k = onE (lawPt b).x (lawPt b).y 1 ((lawPt b).x * (lawPt b).y) := by
  unfold onK
  rw [if_neg (by omega), if_neg (by omega), if_neg (by omega), if_neg (by omega)]

set_option maxHeartbeats 4000000 in
theorem good_FnExtT (h0 : SOk w a0 len0 cap0 z0) (h1 : SOk w a1 len1 cap1 z1) : GoodP (W2 a0 len0 cap0 a1 len1 cap1 w) T_FnExtT (sp_FT (pad 32 len0 z0) (pad 32 len1 z1)) := by
  refine lawP_sound (ts := ts_FnExtT) (l := l_FT h0 h1 sp_iFrom) (W := W2 a0 len0 cap0 a1 len1 cap1 w) ⟨(good_NBytes _).toP, (good_Of32 _).toP, (good_Field _).toP, (good_FAdd _).toP, (good_FSub _).toP, (good_FMul _).toP, (good_same32 _).toP, (good_Edw _).toP, (good_Enc _).toP, (good_cD _).toP, (good_cSame _).toP, good_iExt _, good_iFrom _, (good_szA h0).toP, (good_szB h1).toP, good_ptA h0, trivial⟩ (show 16 ≤ 1000000 by decide) Try.func6 Try.call6 (by kernel_rfl) rfl ?_
  intro xs hlen hx
  obtain ⟨hi, hx⟩ : i64b (xs.getD 0 0) ∧ onK (pad 32 len0 z0) (pad 32 len1 z1) (chg (xs.getD 0 0)) := hx
  by_cases g0 : (len0 : Int) > 2147483647
  · refine ⟨_, _, _, _, r_FnExtT_0, w_FnExtT_0, ?_⟩
    intro ρ _ hst
    obtain ⟨e1, e2⟩ := E_FnExtT_0 hst
    exact ⟨fun j a ha => one_out rfl j a ha, A_FnExtT_0 ⟨big_yes (len := len0) e1 e2 g0, trivial⟩⟩
  by_cases g1 : (len1 : Int) > 2147483647
  · refine ⟨_, _, _, _, r_FnExtT_1, w_FnExtT_1, ?_⟩
    intro ρ _ hst
    obtain ⟨e1, e2, e3, e4⟩ := E_FnExtT_1 hst
    exact ⟨fun j a ha => one_out rfl j a ha, A_FnExtT_1 ⟨big_yes (len := len1) e3 e4 g1, big_no (len := len0) e1 e2 g0, trivial⟩⟩
  have hr := chg_range hi.1 hi.2
  have hon := (lawPt_ok (pad 32 len0 z0)).2
  generalize hn : xs.getD 0 0 = n at *
  have hks : chg n = 0 ∨ chg n = 1 ∨ chg n = 2 ∨ chg n = 3 ∨ 4 ≤ chg n := by omega
  have C := cx_FT h0 h1 sp_iFrom (W2 a0 len0 cap0 a1 len1 cap1 w).gl
  rcases hks with hk | hk | hk | hk | hk
  · rw [hk, onK_0] at hx
    refine ⟨_, _, _, _, r_FnExtT_2, w_FnExtT_2, ?_⟩
    intro ρ hin hst
    have n0 : ρ 0 = n := (hin 0 (by decide)).trans hn
    have hE := E_FnExtT_2 hst
    have h2 := big_no (len := len0) hE.1 hE.2.1 g0
    have h4 := big_no (len := len1) hE.2.2.1 hE.2.2.2.1 g1
    obtain ⟨r, am, h5, hX, hY, hZ, hT, hN⟩ := hd_md C hE h2 h4 (by rw [n0]; exact hk) (by decide)
    obtain ⟨aT, hv⟩ := finT C hN hY hZ hT h5 rfl rfl hx iF_ne.2 r am
    exact ⟨fun j a ha => one_outv hv j a ha, A_FnExtT_2 aT⟩
  · rw [hk, onK_1] at hx
    refine ⟨_, _, _, _, r_FnExtT_3, w_FnExtT_3, ?_⟩
    intro ρ hin hst
    have n0 : ρ 0 = n := (hin 0 (by decide)).trans hn
    have hE := E_FnExtT_3 hst
    have h2 := big_no (len := len0) hE.1 hE.2.1 g0
    have h4 := big_no (len := len1) hE.2.2.1 hE.2.2.2.1 g1
    obtain ⟨r, am, h5, hX, hY, hZ, hT, hN⟩ := hd_md C hE h2 h4 (by rw [n0]; exact hk) (by decide)
    obtain ⟨aT, hv⟩ := finT C hX hN hZ hT h5 rfl rfl hx iF_ne.2 r am
    exact ⟨fun j a ha => one_outv hv j a ha, A_FnExtT_3 aT⟩
  · rw [hk, onK_2] at hx
    have hz : eF (pad 32 len1 z1) ≠ 0 := by
      intro hz
      rw [hz] at hx
      exact onE_z hon hx
    refine ⟨_, _, _, _, r_FnExtT_4, w_FnExtT_4, ?_⟩
    intro ρ hin hst
    have n0 : ρ 0 = n := (hin 0 (by decide)).trans hn
    have hE := E_FnExtT_4 hst
    have h2 := big_no (len := len0) hE.1 hE.2.1 g0
    have h4 := big_no (len := len1) hE.2.2.1 hE.2.2.2.1 g1
    obtain ⟨r, am, h5, hX, hY, hZ, hT, hN⟩ := hd_md C hE h2 h4 (by rw [n0]; exact hk) (by decide)
    obtain ⟨aT, hv⟩ := finT C hX hY hN hT h5 rfl rfl hx hz r am
    exact ⟨fun j a ha => one_outv hv j a ha, A_FnExtT_4 aT⟩
  · rw [hk, onK_3] at hx
    refine ⟨_, _, _, _, r_FnExtT_5, w_FnExtT_5, ?_⟩
    intro ρ hin hst
    have n0 : ρ 0 = n := (hin 0 (by decide)).trans hn
    have hE := E_FnExtT_5 hst
    have h2 := big_no (len := len0) hE.1 hE.2.1 g0
    have h4 := big_no (len := len1) hE.2.2.1 hE.2.2.2.1 g1
    obtain ⟨r, am, h5, hX, hY, hZ, hT, hN⟩ := hd_md C hE h2 h4 (by rw [n0]; exact hk) (by decide)
    obtain ⟨aT, hv⟩ := finT C hX hY hZ hN h5 rfl rfl hx iF_ne.2 r am
    exact ⟨fun j a ha => one_outv hv j a ha, A_FnExtT_5 aT⟩
  · rw [onK_4 hk] at hx
    refine ⟨_, _, _, _, r_FnExtT_6, w_FnExtT_6, ?_⟩
    intro ρ hin hst
    have n0 : ρ 0 = n := (hin 0 (by decide)).trans hn
    have hE := E_FnExtT_6 hst
    have h2 := big_no (len := len0) hE.1 hE.2.1 g0
    have h4 := big_no (len := len1) hE.2.2.1 hE.2.2.2.1 g1
    obtain ⟨r, am, h5, hX, hY, hZ, hT⟩ := hd_no C hE h2 h4 (by rw [n0]; exact hk)
    obtain ⟨aT, hv⟩ := finT C hX hY hZ hT h5 rfl rfl hx iF_ne.2 r am
    exact ⟨fun j a ha => one_outv hv j a ha, A_FnExtT_6 aT⟩

set_option maxHeartbeats 4000000 in
theorem good_FnExtF (h0 : SOk w a0 len0 cap0 z0) (h1 : SOk w a1 len1 cap1 z1) : GoodP (W2 a0 len0 cap0 a1 len1 cap1 w) T_FnExtF (sp_FF (pad 32 len0 z0) (pad 32 len1 z1)) := by
  refine lawP_sound (ts := ts_FnExtF) (l := l_FT h0 h1 sp_iFromF) (W := W2 a0 len0 cap0 a1 len1 cap1 w) ⟨(good_NBytes _).toP, (good_Of32 _).toP, (good_Field _).toP, (good_FAdd _).toP, (good_FSub _).toP, (good_FMul _).toP, (good_same32 _).toP, (good_Edw _).toP, (good_Enc _).toP, (good_cD _).toP, (good_cSame _).toP, good_iExt _, good_iFromF _, (good_szA h0).toP, (good_szB h1).toP, good_ptA h0, trivial⟩ (show 16 ≤ 1000000 by decide) Try.func6 Try.call6 (by kernel_rfl) rfl ?_
  intro xs hlen hx
  obtain ⟨hi, hx⟩ : i64b (xs.getD 0 0) ∧ ¬ onK (pad 32 len0 z0) (pad 32 len1 z1) (chg (xs.getD 0 0)) := hx
  by_cases g0 : (len0 : Int) > 2147483647
  · refine ⟨_, _, _, _, r_FnExtF_0, w_FnExtF_0, ?_⟩
    intro ρ _ hst
    obtain ⟨e1, e2⟩ := E_FnExtF_0 hst
    exact ⟨fun j a ha => by simp [ft_FnExtF_0] at ha, A_FnExtF_0 ⟨big_yes (len := len0) e1 e2 g0, trivial⟩⟩
  by_cases g1 : (len1 : Int) > 2147483647
  · refine ⟨_, _, _, _, r_FnExtF_1, w_FnExtF_1, ?_⟩
    intro ρ _ hst
    obtain ⟨e1, e2, e3, e4⟩ := E_FnExtF_1 hst
    exact ⟨fun j a ha => by simp [ft_FnExtF_1] at ha, A_FnExtF_1 ⟨big_yes (len := len1) e3 e4 g1, big_no (len := len0) e1 e2 g0, trivial⟩⟩
  have hr := chg_range hi.1 hi.2
  have hon := (lawPt_ok (pad 32 len0 z0)).2
  generalize hn : xs.getD 0 0 = n at *
  have hks : chg n = 0 ∨ chg n = 1 ∨ chg n = 2 ∨ chg n = 3 ∨ 4 ≤ chg n := by omega
  have C := cx_FT h0 h1 sp_iFromF (W2 a0 len0 cap0 a1 len1 cap1 w).gl
  rcases hks with hk | hk | hk | hk | hk
  · rw [hk, onK_0] at hx
    by_cases hc : eF (pad 32 len1 z1) * (lawPt (pad 32 len0 z0)).y = 1 * ((lawPt (pad 32 len0 z0)).x * (lawPt (pad 32 len0 z0)).y)
    · refine ⟨_, _, _, _, r_FnExtF_3, w_FnExtF_3, ?_⟩
      intro ρ hin hst
      have n0 : ρ 0 = n := (hin 0 (by decide)).trans hn
      have hE := E_FnExtF_3 hst
      have h2 := big_no (len := len0) hE.1 hE.2.1 g0
      have h4 := big_no (len := len1) hE.2.2.1 hE.2.2.2.1 g1
      obtain ⟨r, am, h5, hX, hY, hZ, hT, hN⟩ := hd_md C hE h2 h4 (by rw [n0]; exact hk) (by decide)
      have aF := finF2 C hN hY hZ hT h5 rfl hx hc r am
      rw [decide_eq_false iF_ne.2] at aF
      exact ⟨fun j a ha => by simp [ft_FnExtF_3] at ha, A_FnExtF_3 aF⟩
    · refine ⟨_, _, _, _, r_FnExtF_2, w_FnExtF_2, ?_⟩
      intro ρ hin hst
      have n0 : ρ 0 = n := (hin 0 (by decide)).trans hn
      have hE := E_FnExtF_2 hst
      have h2 := big_no (len := len0) hE.1 hE.2.1 g0
      have h4 := big_no (len := len1) hE.2.2.1 hE.2.2.2.1 g1
      obtain ⟨r, am, h5, hX, hY, hZ, hT, hN⟩ := hd_md C hE h2 h4 (by rw [n0]; exact hk) (by decide)
      have aF := finF1 C hN hY hZ hT h5 rfl hx hc r am
      rw [decide_eq_false iF_ne.2] at aF
      exact ⟨fun j a ha => by simp [ft_FnExtF_2] at ha, A_FnExtF_2 aF⟩
  · rw [hk, onK_1] at hx
    by_cases hc : (lawPt (pad 32 len0 z0)).x * eF (pad 32 len1 z1) = 1 * ((lawPt (pad 32 len0 z0)).x * (lawPt (pad 32 len0 z0)).y)
    · refine ⟨_, _, _, _, r_FnExtF_5, w_FnExtF_5, ?_⟩
      intro ρ hin hst
      have n0 : ρ 0 = n := (hin 0 (by decide)).trans hn
      have hE := E_FnExtF_5 hst
      have h2 := big_no (len := len0) hE.1 hE.2.1 g0
      have h4 := big_no (len := len1) hE.2.2.1 hE.2.2.2.1 g1
      obtain ⟨r, am, h5, hX, hY, hZ, hT, hN⟩ := hd_md C hE h2 h4 (by rw [n0]; exact hk) (by decide)
      have aF := finF2 C hX hN hZ hT h5 rfl hx hc r am
      rw [decide_eq_false iF_ne.2] at aF
      exact ⟨fun j a ha => by simp [ft_FnExtF_5] at ha, A_FnExtF_5 aF⟩
    · refine ⟨_, _, _, _, r_FnExtF_4, w_FnExtF_4, ?_⟩
      intro ρ hin hst
      have n0 : ρ 0 = n := (hin 0 (by decide)).trans hn
      have hE := E_FnExtF_4 hst
      have h2 := big_no (len := len0) hE.1 hE.2.1 g0
      have h4 := big_no (len := len1) hE.2.2.1 hE.2.2.2.1 g1
      obtain ⟨r, am, h5, hX, hY, hZ, hT, hN⟩ := hd_md C hE h2 h4 (by rw [n0]; exact hk) (by decide)
      have aF := finF1 C hX hN hZ hT h5 rfl hx hc r am
      rw [decide_eq_false iF_ne.2] at aF
      exact ⟨fun j a ha => by simp [ft_FnExtF_4] at ha, A_FnExtF_4 aF⟩
  · rw [hk, onK_2] at hx
    by_cases hc : (lawPt (pad 32 len0 z0)).x * (lawPt (pad 32 len0 z0)).y = eF (pad 32 len1 z1) * ((lawPt (pad 32 len0 z0)).x * (lawPt (pad 32 len0 z0)).y)
    · by_cases hz : eF (pad 32 len1 z1) = 0
      · refine ⟨_, _, _, _, r_FnExtF_13, w_FnExtF_13, ?_⟩
        intro ρ hin hst
        have n0 : ρ 0 = n := (hin 0 (by decide)).trans hn
        have hE := E_FnExtF_13 hst
        have h2 := big_no (len := len0) hE.1 hE.2.1 g0
        have h4 := big_no (len := len1) hE.2.2.1 hE.2.2.2.1 g1
        obtain ⟨r, am, h5, hX, hY, hZ, hT, hN⟩ := hd_md C hE h2 h4 (by rw [n0]; exact hk) (by decide)
        have aF := finF2 C hX hY hN hT h5 rfl hx hc r am
        rw [decide_eq_true hz] at aF
        exact ⟨fun j a ha => by simp [ft_FnExtF_13] at ha, A_FnExtF_13 aF⟩
      · refine ⟨_, _, _, _, r_FnExtF_7, w_FnExtF_7, ?_⟩
        intro ρ hin hst
        have n0 : ρ 0 = n := (hin 0 (by decide)).trans hn
        have hE := E_FnExtF_7 hst
        have h2 := big_no (len := len0) hE.1 hE.2.1 g0
        have h4 := big_no (len := len1) hE.2.2.1 hE.2.2.2.1 g1
        obtain ⟨r, am, h5, hX, hY, hZ, hT, hN⟩ := hd_md C hE h2 h4 (by rw [n0]; exact hk) (by decide)
        have aF := finF2 C hX hY hN hT h5 rfl hx hc r am
        rw [decide_eq_false hz] at aF
        exact ⟨fun j a ha => by simp [ft_FnExtF_7] at ha, A_FnExtF_7 aF⟩
    · by_cases hz : eF (pad 32 len1 z1) = 0
      · refine ⟨_, _, _, _, r_FnExtF_12, w_FnExtF_12, ?_⟩
        intro ρ hin hst
        have n0 : ρ 0 = n := (hin 0 (by decide)).trans hn
        have hE := E_FnExtF_12 hst
        have h2 := big_no (len := len0) hE.1 hE.2.1 g0
        have h4 := big_no (len := len1) hE.2.2.1 hE.2.2.2.1 g1
        obtain ⟨r, am, h5, hX, hY, hZ, hT, hN⟩ := hd_md C hE h2 h4 (by rw [n0]; exact hk) (by decide)
        have aF := finF1 C hX hY hN hT h5 rfl hx hc r am
        rw [decide_eq_true hz] at aF
        exact ⟨fun j a ha => by simp [ft_FnExtF_12] at ha, A_FnExtF_12 aF⟩
      · refine ⟨_, _, _, _, r_FnExtF_6, w_FnExtF_6, ?_⟩
        intro ρ hin hst
        have n0 : ρ 0 = n := (hin 0 (by decide)).trans hn
        have hE := E_FnExtF_6 hst
        have h2 := big_no (len := len0) hE.1 hE.2.1 g0
        have h4 := big_no (len := len1) hE.2.2.1 hE.2.2.2.1 g1
        obtain ⟨r, am, h5, hX, hY, hZ, hT, hN⟩ := hd_md C hE h2 h4 (by rw [n0]; exact hk) (by decide)
        have aF := finF1 C hX hY hN hT h5 rfl hx hc r am
        rw [decide_eq_false hz] at aF
        exact ⟨fun j a ha => by simp [ft_FnExtF_6] at ha, A_FnExtF_6 aF⟩
  · rw [hk, onK_3] at hx
    by_cases hc : (lawPt (pad 32 len0 z0)).x * (lawPt (pad 32 len0 z0)).y = 1 * eF (pad 32 len1 z1)
    · refine ⟨_, _, _, _, r_FnExtF_9, w_FnExtF_9, ?_⟩
      intro ρ hin hst
      have n0 : ρ 0 = n := (hin 0 (by decide)).trans hn
      have hE := E_FnExtF_9 hst
      have h2 := big_no (len := len0) hE.1 hE.2.1 g0
      have h4 := big_no (len := len1) hE.2.2.1 hE.2.2.2.1 g1
      obtain ⟨r, am, h5, hX, hY, hZ, hT, hN⟩ := hd_md C hE h2 h4 (by rw [n0]; exact hk) (by decide)
      have aF := finF2 C hX hY hZ hN h5 rfl hx hc r am
      rw [decide_eq_false iF_ne.2] at aF
      exact ⟨fun j a ha => by simp [ft_FnExtF_9] at ha, A_FnExtF_9 aF⟩
    · refine ⟨_, _, _, _, r_FnExtF_8, w_FnExtF_8, ?_⟩
      intro ρ hin hst
      have n0 : ρ 0 = n := (hin 0 (by decide)).trans hn
      have hE := E_FnExtF_8 hst
      have h2 := big_no (len := len0) hE.1 hE.2.1 g0
      have h4 := big_no (len := len1) hE.2.2.1 hE.2.2.2.1 g1
      obtain ⟨r, am, h5, hX, hY, hZ, hT, hN⟩ := hd_md C hE h2 h4 (by rw [n0]; exact hk) (by decide)
      have aF := finF1 C hX hY hZ hN h5 rfl hx hc r am
      rw [decide_eq_false iF_ne.2] at aF
      exact ⟨fun j a ha => by simp [ft_FnExtF_8] at ha, A_FnExtF_8 aF⟩
  · rw [onK_4 hk] at hx
    by_cases hc : (lawPt (pad 32 len0 z0)).x * (lawPt (pad 32 len0 z0)).y = 1 * ((lawPt (pad 32 len0 z0)).x * (lawPt (pad 32 len0 z0)).y)
    · refine ⟨_, _, _, _, r_FnExtF_11, w_FnExtF_11, ?_⟩
      intro ρ hin hst
      have n0 : ρ 0 = n := (hin 0 (by decide)).trans hn
      have hE := E_FnExtF_11 hst
      have h2 := big_no (len := len0) hE.1 hE.2.1 g0
      have h4 := big_no (len := len1) hE.2.2.1 hE.2.2.2.1 g1
      obtain ⟨r, am, h5, hX, hY, hZ, hT⟩ := hd_no C hE h2 h4 (by rw [n0]; exact hk)
      have aF := finF2 C hX hY hZ hT h5 rfl hx hc r am
      rw [decide_eq_false iF_ne.2] at aF
      exact ⟨fun j a ha => by simp [ft_FnExtF_11] at ha, A_FnExtF_11 aF⟩
    · refine ⟨_, _, _, _, r_FnExtF_10, w_FnExtF_10, ?_⟩
      intro ρ hin hst
      have n0 : ρ 0 = n := (hin 0 (by decide)).trans hn
      have hE := E_FnExtF_10 hst
      have h2 := big_no (len := len0) hE.1 hE.2.1 g0
      have h4 := big_no (len := len1) hE.2.2.1 hE.2.2.2.1 g1
      obtain ⟨r, am, h5, hX, hY, hZ, hT⟩ := hd_no C hE h2 h4 (by rw [n0]; exact hk)
      have aF := finF1 C hX hY hZ hT h5 rfl hx hc r am
      rw [decide_eq_false iF_ne.2] at aF
      exact ⟨fun j a ha => by simp [ft_FnExtF_10] at ha, A_FnExtF_10 aF⟩
end

end Go.X.Y
