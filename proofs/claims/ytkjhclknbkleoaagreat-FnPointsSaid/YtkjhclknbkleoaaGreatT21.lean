/-
  A part of the proof of YtkjhclknbkleoaaGreat: texts ZG2. No conditions.
-/
import Derived.Test.YtkjhclknbkleoaaGreatT20
set_option maxRecDepth 20000
namespace Go.X.Z
open Go.Proofs

/-! ### the law of points -/

section
variable {a0 : Option Addr} {len0 cap0 : Nat} {z0 : List Int} {a1 : Option Addr} {len1 cap1 : Nat} {z1 : List Int} {w : World}

def sp_pt (b : List Int) : SemP := ⟨fun _ => pL (lawPt b) ++ lawB b, fun xs => xs = nF dF⟩

theorem pt_yes {b : List Int} (hp : isPt b) : lawPt b = ⟨xF (eF b) (sgB b), eF b, 1⟩ ∧ lawB b = b := by
  unfold lawPt lawB
  exact ⟨if_pos hp, if_pos hp⟩
theorem pt_no {b : List Int} (hp : ¬ isPt b) : lawPt b = Pt.mul dF (s_Of32.f b ++ Z8) Bpt ∧ lawB b = encB (lawPt b).x (lawPt b).y := by
  unfold lawB
  refine ⟨?_, if_neg hp⟩
  unfold lawPt
  exact if_neg hp

theorem good_ptA (h0 : SOk w a0 len0 cap0 z0) : GoodP (W2 a0 len0 cap0 a1 len1 cap1 w) T_ptA (sp_pt (pad 32 len0 z0)) := by
  refine lawP_sound (ts := [T_Of32, T_Dec, T_Enc, T_Base, T_cTimes, T_szA]) (l := [s_Of32.toP, s_Dec.toP, s_Enc.toP, s_Base.toP, s_cTimes.toP, (sA h0).toP]) (W := W2 a0 len0 cap0 a1 len1 cap1 w)
    ⟨(good_Of32 _).toP, (good_Dec _).toP, (good_Enc _).toP, (good_Base _).toP, (good_cTimes _).toP, (good_szA h0).toP, trivial⟩ (show 6 ≤ 1000000 by decide) Tryz.func5 Tryz.call5 (by kernel_rfl) rfl ?_
  intro xs hlen hx
  have hx : xs = nF dF := hx
  have hb : InB (BB 32) (pad 32 len0 z0) := pad_in h0.len h0.bytes
  have hf : (sp_pt (pad 32 len0 z0)).f xs = pL (lawPt (pad 32 len0 z0)) ++ lawB (pad 32 len0 z0) := rfl
  by_cases hp : isPt (pad 32 len0 z0)
  · refine ⟨_, _, _, _, r_ptA_0, w_ptA_0, ?_⟩
    intro ρ hin hst
    obtain ⟨e16, e48⟩ := E_ptA_0 hst
    have hs := seg_of (n := 16) hlen hin
    rw [hx] at hs
    have e16 : seg ρ 16 32 = gets (pad 32 len0 z0) 0 32 := e16
    rw [gets_all (show _ = 32 from hb.len)] at e16
    have a48 : seg ρ 0 48 = seg ρ 0 16 ++ seg ρ 16 32 := seg_add ρ 16 32 0
    have e48 : seg ρ 48 34 = gets (f_Dec (seg ρ 0 48)) 0 34 := e48
    rw [a48, hs, e16, (Dec_val hb).trans (if_pos hp), gets_all (by rw [List.length_append, List.length_append, nF_len, nF_len]; rfl)] at e48
    obtain ⟨k1, k2⟩ := seg_two (n := 32) (m := 2) e48 (by rw [List.length_append, nF_len, nF_len])
    have k80 : ρ 80 = 1 := (List.cons.inj k2).1
    have k81 : ρ 81 = 1 := (List.cons.inj (List.cons.inj k2).2).1
    refine ⟨out_of (ρ := ρ) (ft := ft_ptA_0.outs) ?_, A_ptA_0 ⟨by rw [k81]; rfl, ?_, trivial, trivial⟩⟩
    · have h1 : ∀ v : Nat → Int, ft_ptA_0.outs.map (A.ev v) = seg v 48 32 ++ ([v 80, 0, 0, 0, 0, 0, 0, 0, 0, 0, 0, 0, 0, 0, 0, 0] ++ seg v 16 32) := fun v => by kernel_rfl
      rw [h1, k1, k80, e16, hf, (pt_yes hp).1, (pt_yes hp).2]
      show (nF _ ++ (nF _ ++ nF 1)) ++ _ = _
      rw [nF_one]; simp only [List.append_assoc]
    · show InB (WB 16 ++ BB 32) (seg ρ 0 48)
      rw [a48, hs, e16]; exact InB.append (nF_in _) hb
  · refine ⟨_, _, _, _, r_ptA_1, w_ptA_1, ?_⟩
    intro ρ hin hst
    obtain ⟨e16, e48, e82, e90, e123, e171⟩ := E_ptA_1 hst
    have hs := seg_of (n := 16) hlen hin
    rw [hx] at hs
    have e16 : seg ρ 16 32 = gets (pad 32 len0 z0) 0 32 := e16
    rw [gets_all (show _ = 32 from hb.len)] at e16
    have a48 : seg ρ 0 48 = seg ρ 0 16 ++ seg ρ 16 32 := seg_add ρ 16 32 0
    have e48 : seg ρ 48 34 = gets (f_Dec (seg ρ 0 48)) 0 34 := e48
    rw [a48, hs, e16, (Dec_val hb).trans (if_neg hp), gets_all (List.length_replicate ..)] at e48
    have k81 : ρ 81 = 0 := by
      have := seg_getD (v := ρ) (n := 34) (x := 48) 33 (by decide)
      rw [e48] at this
      exact this.symm
    have h8 := of32_in hb
    have e82 : seg ρ 82 8 = gets (s_Of32.f (seg ρ 16 32)) 0 8 := e82
    rw [e16, gets_all (show _ = 8 from h8.len)] at e82
    have e90 : seg ρ 90 33 = gets (s_Base.f (seg ρ 0 16)) 0 33 := e90
    rw [hs, Base_val, gets_all (by rw [List.length_append, List.length_append, nF_len, nF_len]; rfl)] at e90
    have hE : InB (WB 16) (s_Of32.f (pad 32 len0 z0) ++ Z8) := InB.append (a := WB 8) (b := WB 8) h8 Z8_in
    have ha : seg ρ 0 16 ++ seg ρ 82 8 ++ [0, 0, 0, 0, 0, 0, 0, 0] ++ seg ρ 90 33 ++ [0, 0, 0, 0, 0, 0, 0, 0, 0, 0, 0, 0, 0, 0, 0] = nF dF ++ ((s_Of32.f (pad 32 len0 z0) ++ Z8) ++ pL Bpt) := by
      rw [hs, e82, e90, ← base_pL]
      show _ = nF dF ++ ((s_Of32.f (pad 32 len0 z0) ++ [0, 0, 0, 0, 0, 0, 0, 0]) ++ _)
      simp only [List.append_assoc]
    have e123 : seg ρ 123 48 = gets (s_cTimes.f (seg ρ 0 16 ++ seg ρ 82 8 ++ [0, 0, 0, 0, 0, 0, 0, 0] ++ seg ρ 90 33 ++ [0, 0, 0, 0, 0, 0, 0, 0, 0, 0, 0, 0, 0, 0, 0])) 0 48 := e123
    rw [ha, cTimes_val _ _ hE, gets_all (pL_len _), ← (pt_no hp).1] at e123
    have e171 : seg ρ 171 32 = gets (f_Enc (seg ρ 0 16 ++ seg ρ 123 48)) 0 32 := e171
    have hn : f_Enc (nF dF ++ pL (lawPt (pad 32 len0 z0))) = lawB (pad 32 len0 z0) := by
      rw [(pt_no hp).2]; exact Enc_val (nF_len _) _ _ _
    rw [hs, e123, hn, gets_all (show _ = 32 from (lawB_in hb).len)] at e171
    refine ⟨out_of (ρ := ρ) (ft := ft_ptA_1.outs) ?_, A_ptA_1 ⟨?_, ?_, ?_, ?_, by rw [k81]; rfl, ?_, trivial, trivial⟩⟩
    · have h1 : ∀ v : Nat → Int, ft_ptA_1.outs.map (A.ev v) = seg v 123 48 ++ seg v 171 32 := fun v => by kernel_rfl
      rw [h1, e123, e171, hf]
    · show InB (WB 64) (seg ρ 0 16 ++ seg ρ 123 48)
      rw [hs, e123]; exact InB.append (a := WB 16) (b := WB 48) (nF_in _) (pL_in _)
    · show InB (WB 80) _
      rw [ha]; exact InB.append (a := WB 16) (b := WB 64) (nF_in _) (InB.append (a := WB 16) (b := WB 48) hE (pL_in _))
    · show InB (WB 16) (seg ρ 0 16)
      rw [hs]; exact nF_in _
    · show InB (BB 32) (seg ρ 16 32)
      rw [e16]; exact hb
    · show InB (WB 16 ++ BB 32) (seg ρ 0 48)
      rw [a48, hs, e16]; exact InB.append (nF_in _) hb

theorem good_ptB (h1 : SOk w a1 len1 cap1 z1) : GoodP (W2 a0 len0 cap0 a1 len1 cap1 w) T_ptB (sp_pt (pad 32 len1 z1)) := by
  refine lawP_sound (ts := [T_Of32, T_Dec, T_Enc, T_Base, T_cTimes, T_szB]) (l := [s_Of32.toP, s_Dec.toP, s_Enc.toP, s_Base.toP, s_cTimes.toP, (sB h1).toP]) (W := W2 a0 len0 cap0 a1 len1 cap1 w)
    ⟨(good_Of32 _).toP, (good_Dec _).toP, (good_Enc _).toP, (good_Base _).toP, (good_cTimes _).toP, (good_szB h1).toP, trivial⟩ (show 6 ≤ 1000000 by decide) Tryz.func5 Tryz.call5 (by kernel_rfl) rfl ?_
  intro xs hlen hx
  have hx : xs = nF dF := hx
  have hb : InB (BB 32) (pad 32 len1 z1) := pad_in h1.len h1.bytes
  have hf : (sp_pt (pad 32 len1 z1)).f xs = pL (lawPt (pad 32 len1 z1)) ++ lawB (pad 32 len1 z1) := rfl
  by_cases hp : isPt (pad 32 len1 z1)
  · refine ⟨_, _, _, _, r_ptB_0, w_ptB_0, ?_⟩
    intro ρ hin hst
    obtain ⟨e16, e48⟩ := E_ptB_0 hst
    have hs := seg_of (n := 16) hlen hin
    rw [hx] at hs
    have e16 : seg ρ 16 32 = gets (pad 32 len1 z1) 0 32 := e16
    rw [gets_all (show _ = 32 from hb.len)] at e16
    have a48 : seg ρ 0 48 = seg ρ 0 16 ++ seg ρ 16 32 := seg_add ρ 16 32 0
    have e48 : seg ρ 48 34 = gets (f_Dec (seg ρ 0 48)) 0 34 := e48
    rw [a48, hs, e16, (Dec_val hb).trans (if_pos hp), gets_all (by rw [List.length_append, List.length_append, nF_len, nF_len]; rfl)] at e48
    obtain ⟨k1, k2⟩ := seg_two (n := 32) (m := 2) e48 (by rw [List.length_append, nF_len, nF_len])
    have k80 : ρ 80 = 1 := (List.cons.inj k2).1
    have k81 : ρ 81 = 1 := (List.cons.inj (List.cons.inj k2).2).1
    refine ⟨out_of (ρ := ρ) (ft := ft_ptB_0.outs) ?_, A_ptB_0 ⟨by rw [k81]; rfl, ?_, trivial, trivial⟩⟩
    · have h1 : ∀ v : Nat → Int, ft_ptB_0.outs.map (A.ev v) = seg v 48 32 ++ ([v 80, 0, 0, 0, 0, 0, 0, 0, 0, 0, 0, 0, 0, 0, 0, 0] ++ seg v 16 32) := fun v => by kernel_rfl
      rw [h1, k1, k80, e16, hf, (pt_yes hp).1, (pt_yes hp).2]
      show (nF _ ++ (nF _ ++ nF 1)) ++ _ = _
      rw [nF_one]; simp only [List.append_assoc]
    · show InB (WB 16 ++ BB 32) (seg ρ 0 48)
      rw [a48, hs, e16]; exact InB.append (nF_in _) hb
  · refine ⟨_, _, _, _, r_ptB_1, w_ptB_1, ?_⟩
    intro ρ hin hst
    obtain ⟨e16, e48, e82, e90, e123, e171⟩ := E_ptB_1 hst
    have hs := seg_of (n := 16) hlen hin
    rw [hx] at hs
    have e16 : seg ρ 16 32 = gets (pad 32 len1 z1) 0 32 := e16
    rw [gets_all (show _ = 32 from hb.len)] at e16
    have a48 : seg ρ 0 48 = seg ρ 0 16 ++ seg ρ 16 32 := seg_add ρ 16 32 0
    have e48 : seg ρ 48 34 = gets (f_Dec (seg ρ 0 48)) 0 34 := e48
    rw [a48, hs, e16, (Dec_val hb).trans (if_neg hp), gets_all (List.length_replicate ..)] at e48
    have k81 : ρ 81 = 0 := by
      have := seg_getD (v := ρ) (n := 34) (x := 48) 33 (by decide)
      rw [e48] at this
      exact this.symm
    have h8 := of32_in hb
    have e82 : seg ρ 82 8 = gets (s_Of32.f (seg ρ 16 32)) 0 8 := e82
    rw [e16, gets_all (show _ = 8 from h8.len)] at e82
    have e90 : seg ρ 90 33 = gets (s_Base.f (seg ρ 0 16)) 0 33 := e90
    rw [hs, Base_val, gets_all (by rw [List.length_append, List.length_append, nF_len, nF_len]; rfl)] at e90
    have hE : InB (WB 16) (s_Of32.f (pad 32 len1 z1) ++ Z8) := InB.append (a := WB 8) (b := WB 8) h8 Z8_in
    have ha : seg ρ 0 16 ++ seg ρ 82 8 ++ [0, 0, 0, 0, 0, 0, 0, 0] ++ seg ρ 90 33 ++ [0, 0, 0, 0, 0, 0, 0, 0, 0, 0, 0, 0, 0, 0, 0] = nF dF ++ ((s_Of32.f (pad 32 len1 z1) ++ Z8) ++ pL Bpt) := by
      rw [hs, e82, e90, ← base_pL]
      show _ = nF dF ++ ((s_Of32.f (pad 32 len1 z1) ++ [0, 0, 0, 0, 0, 0, 0, 0]) ++ _)
      simp only [List.append_assoc]
    have e123 : seg ρ 123 48 = gets (s_cTimes.f (seg ρ 0 16 ++ seg ρ 82 8 ++ [0, 0, 0, 0, 0, 0, 0, 0] ++ seg ρ 90 33 ++ [0, 0, 0, 0, 0, 0, 0, 0, 0, 0, 0, 0, 0, 0, 0])) 0 48 := e123
    rw [ha, cTimes_val _ _ hE, gets_all (pL_len _), ← (pt_no hp).1] at e123
    have e171 : seg ρ 171 32 = gets (f_Enc (seg ρ 0 16 ++ seg ρ 123 48)) 0 32 := e171
    have hn : f_Enc (nF dF ++ pL (lawPt (pad 32 len1 z1))) = lawB (pad 32 len1 z1) := by
      rw [(pt_no hp).2]; exact Enc_val (nF_len _) _ _ _
    rw [hs, e123, hn, gets_all (show _ = 32 from (lawB_in hb).len)] at e171
    refine ⟨out_of (ρ := ρ) (ft := ft_ptB_1.outs) ?_, A_ptB_1 ⟨?_, ?_, ?_, ?_, by rw [k81]; rfl, ?_, trivial, trivial⟩⟩
    · have h1 : ∀ v : Nat → Int, ft_ptB_1.outs.map (A.ev v) = seg v 123 48 ++ seg v 171 32 := fun v => by kernel_rfl
      rw [h1, e123, e171, hf]
    · show InB (WB 64) (seg ρ 0 16 ++ seg ρ 123 48)
      rw [hs, e123]; exact InB.append (a := WB 16) (b := WB 48) (nF_in _) (pL_in _)
    · show InB (WB 80) _
      rw [ha]; exact InB.append (a := WB 16) (b := WB 64) (nF_in _) (InB.append (a := WB 16) (b := WB 48) hE (pL_in _))
    · show InB (WB 16) (seg ρ 0 16)
      rw [hs]; exact nF_in _
    · show InB (BB 32) (seg ρ 16 32)
      rw [e16]; exact hb
    · show InB (WB 16 ++ BB 32) (seg ρ 0 48)
      rw [a48, hs, e16]; exact InB.append (nF_in _) hb

theorem big_no {ρ : Nat → Int} {x y len : Nat} (h1 : ρ x = (len : Int)) (h2 : ρ y = op2 .gtr .i64 (ρ x) 2147483647) (g : ¬ (len : Int) > 2147483647) : (ρ y != 0) = false := by
  rw [h2, h1, gtr_b, decide_eq_false g]; rfl
theorem big_yes {ρ : Nat → Int} {x y len : Nat} (h1 : ρ x = (len : Int)) (h2 : ρ y = op2 .gtr .i64 (ρ x) 2147483647) (g : (len : Int) > 2147483647) : (ρ y != 0) = true := by
  rw [h2, h1, gtr_b, decide_eq_true g]; rfl

theorem pL_turn (Q : Pt) : pL Q.turn = nF (-Q.X) ++ (nF Q.Y ++ nF Q.Z) := rfl

theorem same_2 {a b : List Int} {t : Int} (ha : InB (BB 32) a) (h : a = b) (ht : t = (s_same32.f (a ++ b)).getD 0 0) : t = 1 := by
  subst h
  rw [same32_val ha ha, if_pos rfl] at ht
  exact ht

theorem ok01 {P : Prop} [Decidable P] {a b c d e : Int} (ha : a = if P then 1 else 0) (hb : b = if P then 1 else 0) (hc : c = if a ≠ 0 then 1 else 0) (hd : d = if a ≠ 0 then 0 else 1) (he : e = if b ≠ 0 then c else d) : e = 1 := by
  by_cases h : P
  · rw [if_pos h] at ha hb
    subst ha hb hc hd he; rfl
  · rw [if_neg h] at ha hb
    subst ha hb hc hd he; rfl

def sp_law : SemP := ⟨fun _ => [1], fun _ => True⟩

theorem good_FnPts (h0 : SOk w a0 len0 cap0 z0) (h1 : SOk w a1 len1 cap1 z1) : GoodP (W2 a0 len0 cap0 a1 len1 cap1 w) T_FnPts sp_law := by
  refine lawP_sound (ts := [T_same32, T_Edw, T_Enc, T_cPlus, T_Turned, T_cSame, T_iSums, T_ptA, T_ptB]) (l := [s_same32.toP, s_Edw.toP, s_Enc.toP, s_cPlus.toP, s_Turned.toP, s_cSame.toP, sp_iSums, sp_pt (pad 32 len0 z0), sp_pt (pad 32 len1 z1)]) (W := W2 a0 len0 cap0 a1 len1 cap1 w)
    ⟨(good_same32 _).toP, (good_Edw _).toP, (good_Enc _).toP, (good_cPlus _).toP, (good_Turned _).toP, (good_cSame _).toP, good_iSums _, good_ptA h0, good_ptB h1, trivial⟩ (show 9 ≤ 1000000 by decide) Tryz.func3 Tryz.call3 (by kernel_rfl) rfl ?_
  intro xs hlen hx
  by_cases g0 : (len0 : Int) > 2147483647
  · refine ⟨_, _, _, _, r_FnPts_0, w_FnPts_0, ?_⟩
    intro ρ _ hst
    obtain ⟨e1, e2⟩ := E_FnPts_0 hst
    exact ⟨fun j a ha => one_out rfl j a ha, A_FnPts_0 ⟨big_yes (len := len0) e1 e2 g0, trivial⟩⟩
  by_cases g1 : (len1 : Int) > 2147483647
  · refine ⟨_, _, _, _, r_FnPts_1, w_FnPts_1, ?_⟩
    intro ρ _ hst
    obtain ⟨e1, e2, e3, e4⟩ := E_FnPts_1 hst
    exact ⟨fun j a ha => one_out rfl j a ha, A_FnPts_1 ⟨big_yes (len := len1) e3 e4 g1, big_no (len := len0) e1 e2 g0, trivial⟩⟩
  refine ⟨_, _, _, _, r_FnPts_2, w_FnPts_2, ?_⟩
  intro ρ hin hst
  obtain ⟨e0, e1, e2, e3, e4, e20, e100, e180, e309, e357, e405, e453, e469, e517, e533, e581, e613, e614, e615, e647, e648, e649, e681, e682, e683, e715, e716, e717, e718, e719, e720⟩ := E_FnPts_2 hst
  clear hst
  have n1 := big_no (len := len0) e0 e1 g0
  have n3 := big_no (len := len1) e2 e3 g1
  have hb0 : InB (BB 32) (pad 32 len0 z0) := pad_in h0.len h0.bytes
  have hb1 : InB (BB 32) (pad 32 len1 z1) := pad_in h1.len h1.bytes
  have hP := lawPt_ok (pad 32 len0 z0)
  have hQ := lawPt_ok (pad 32 len1 z1)
  obtain ⟨pa, ya, xa⟩ := lawB_pt (pad 32 len0 z0)
  obtain ⟨pb, yb, xb⟩ := lawB_pt (pad 32 len1 z1)
  have hA := lawB_in hb0
  have hB := lawB_in hb1
  have e20 : seg ρ 20 80 = gets (pL (lawPt (pad 32 len0 z0)) ++ lawB (pad 32 len0 z0)) 0 80 := e20
  have e100 : seg ρ 100 80 = gets (pL (lawPt (pad 32 len1 z1)) ++ lawB (pad 32 len1 z1)) 0 80 := e100
  generalize lawPt (pad 32 len0 z0) = P at *
  generalize lawPt (pad 32 len1 z1) = Q at *
  generalize lawB (pad 32 len0 z0) = A at *
  generalize lawB (pad 32 len1 z1) = B at *
  rw [gets_all (by rw [List.length_append, pL_len, hA.len]; rfl)] at e20
  rw [gets_all (by rw [List.length_append, pL_len, hB.len]; rfl)] at e100
  obtain ⟨k20, k68⟩ := seg_two (n := 48) (m := 32) e20 (pL_len _)
  obtain ⟨k100, k148⟩ := seg_two (n := 48) (m := 32) e100 (pL_len _)
  have k68 : seg ρ 68 32 = A := k68
  have k148 : seg ρ 148 32 = B := k148
  have e4 : seg ρ 4 16 = gets (s_Edw.f []) 0 16 := e4
  rw [Edw_val, gets_all (nF_len _)] at e4
  have k4 : seg ρ 4 64 = nF dF ++ pL P := by
    have a1 : seg ρ 4 64 = seg ρ 4 16 ++ seg ρ 20 48 := seg_add ρ 16 48 4
    rw [a1, e4, k20]
  obtain ⟨x1, y1, z1'⟩ := seg_pL k20
  obtain ⟨x2, y2, z2'⟩ := seg_pL k100
  have y1 : seg ρ 36 16 = nF P.Y := y1
  have z1' : seg ρ 52 16 = nF P.Z := z1'
  have y2 : seg ρ 116 16 = nF Q.Y := y2
  have z2' : seg ρ 132 16 = nF Q.Z := z2'
  have e180 : seg ρ 180 129 = gets (f_iSums (seg ρ 68 32 ++ seg ρ 148 32)) 0 129 := e180
  have hAB : (A ++ B).take 32 = A ∧ (A ++ B).drop 32 = B := ⟨List.take_left' hA.len, List.drop_left' hA.len⟩
  have hS : f_iSums (A ++ B) = [if P.x = Q.x ∧ P.y = Q.y then 1 else 0] ++ (encB (aX dF P.x P.y Q.x Q.y) (aY dF P.x P.y Q.x Q.y) ++ (encB (aX dF P.x P.y (-Q.x) Q.y) (aY dF P.x P.y (-Q.x) Q.y) ++ (encB (-P.x) P.y ++ encB (eight P.x P.y).1 (eight P.x P.y).2))) := by
    unfold f_iSums
    dsimp only
    rw [hAB.1, hAB.2, xa, ya, xb, yb]
  rw [k68, k148, hS, gets_all (by rw [List.length_append, List.length_append, List.length_append, List.length_append, eB_len, eB_len, eB_len, eB_len]; rfl)] at e180
  obtain ⟨k180, k181⟩ := seg_two (n := 1) (m := 128) e180 rfl
  have k180 : ρ 180 = if P.x = Q.x ∧ P.y = Q.y then 1 else 0 := (List.cons.inj k180).1
  obtain ⟨k181, k213⟩ := seg_two (n := 32) (m := 96) k181 (eB_len _ _)
  obtain ⟨k213, k245⟩ := seg_two (n := 32) (m := 64) k213 (eB_len _ _)
  obtain ⟨k245, k277⟩ := seg_two (n := 32) (m := 32) k245 (eB_len _ _)
  have k181 : seg ρ 181 32 = _ := k181
  have k213 : seg ρ 213 32 = _ := k213
  have k245 : seg ρ 245 32 = _ := k245
  have k277 : seg ρ 277 32 = _ := k277
  obtain ⟨w1, w2, w3, w4⟩ := law_sums hP hQ
  -- the sums
  have e309 : seg ρ 309 48 = gets (s_cPlus.f (seg ρ 4 64 ++ seg ρ 20 48)) 0 48 := e309
  rw [k4, k20, List.append_assoc, cPlus_val, gets_all (pL_len _)] at e309
  have e357 : seg ρ 357 48 = gets (s_cPlus.f (seg ρ 4 16 ++ seg ρ 309 48 ++ seg ρ 309 48)) 0 48 := e357
  rw [e4, e309, List.append_assoc, cPlus_val, gets_all (pL_len _)] at e357
  have e405 : seg ρ 405 48 = gets (s_cPlus.f (seg ρ 4 64 ++ seg ρ 100 48)) 0 48 := e405
  rw [k4, k100, List.append_assoc, cPlus_val, gets_all (pL_len _)] at e405
  have e453 : seg ρ 453 16 = gets (s_Turned.f (seg ρ 4 16 ++ seg ρ 100 48)) 0 16 := e453
  rw [e4, k100, Turned_val, gets_all (nF_len _)] at e453
  have t116 : seg ρ 116 32 = nF Q.Y ++ nF Q.Z := by rw [seg32, y2, z2']
  have t36 : seg ρ 36 32 = nF P.Y ++ nF P.Z := by rw [seg32, y1, z1']
  have tQ : seg ρ 4 64 ++ seg ρ 453 16 ++ seg ρ 116 32 = nF dF ++ (pL P ++ pL Q.turn) := by
    rw [k4, e453, t116, pL_turn]
    simp only [List.append_assoc]
  have e469 : seg ρ 469 48 = gets (s_cPlus.f (seg ρ 4 64 ++ seg ρ 453 16 ++ seg ρ 116 32)) 0 48 := e469
  rw [tQ, cPlus_val, gets_all (pL_len _)] at e469
  have e517 : seg ρ 517 16 = gets (s_Turned.f (seg ρ 4 64)) 0 16 := e517
  rw [k4, Turned_val, gets_all (nF_len _)] at e517
  have tP : seg ρ 4 16 ++ seg ρ 517 16 ++ seg ρ 36 32 = nF dF ++ pL P.turn := by
    rw [e4, e517, t36, pL_turn]
    simp only [List.append_assoc]
  have e533 : seg ρ 533 48 = gets (s_cPlus.f (seg ρ 4 16 ++ seg ρ 357 48 ++ seg ρ 357 48)) 0 48 := e533
  rw [e4, e357, List.append_assoc, cPlus_val, gets_all (pL_len _)] at e533
  -- their bytes
  have e581 : seg ρ 581 32 = gets (f_Enc (seg ρ 4 16 ++ seg ρ 405 48)) 0 32 := e581
  rw [e4, e405, enc_pt, gets_all (eB_len _ _), w1] at e581
  have e613 : ρ 613 = (s_same32.f (seg ρ 181 32 ++ seg ρ 581 32)).getD 0 0 := e613
  rw [k181, e581] at e613
  have o1 := same_2 (eB_in _ _) rfl e613
  rw [o1, if_pos (by decide)] at e614
  have e615 : seg ρ 615 32 = gets (f_Enc (seg ρ 4 16 ++ seg ρ 469 48)) 0 32 := e615
  rw [e4, e469, enc_pt, gets_all (eB_len _ _), w2] at e615
  have e647 : ρ 647 = (s_same32.f (seg ρ 213 32 ++ seg ρ 615 32)).getD 0 0 := e647
  rw [k213, e615] at e647
  have o2 := same_2 (eB_in _ _) rfl e647
  rw [o2, if_pos (by decide)] at e648
  have e649 : seg ρ 649 32 = gets (f_Enc (seg ρ 4 16 ++ seg ρ 517 16 ++ seg ρ 36 32)) 0 32 := e649
  rw [tP, enc_pt, gets_all (eB_len _ _), w3] at e649
  have e681 : ρ 681 = (s_same32.f (seg ρ 245 32 ++ seg ρ 649 32)).getD 0 0 := e681
  rw [k245, e649] at e681
  have o3 := same_2 (eB_in _ _) rfl e681
  rw [o3, if_pos (by decide)] at e682
  have e683 : seg ρ 683 32 = gets (f_Enc (seg ρ 4 16 ++ seg ρ 533 48)) 0 32 := e683
  rw [e4, e533, enc_pt, gets_all (eB_len _ _), w4] at e683
  have e715 : ρ 715 = (s_same32.f (seg ρ 277 32 ++ seg ρ 683 32)).getD 0 0 := e715
  rw [k277, e683] at e715
  have o4 := same_2 (eB_in _ _) rfl e715
  rw [o4, if_pos (by decide)] at e716
  have e717 : ρ 717 = (f_cSame (seg ρ 4 64 ++ seg ρ 100 48)).getD 0 0 := e717
  rw [k4, k100, List.append_assoc, cSame_val, List.getD_cons_zero] at e717
  have hsame : (P.X * Q.Z = Q.X * P.Z ∧ P.Y * Q.Z = Q.Y * P.Z) ↔ (P.x = Q.x ∧ P.y = Q.y) := and_congr (Pt.same hP hQ).1 (Pt.same hP hQ).2
  have e717 : ρ 717 = if P.x = Q.x ∧ P.y = Q.y then 1 else 0 := by
    rw [e717]
    by_cases h : P.x = Q.x ∧ P.y = Q.y
    · rw [if_pos h, if_pos (hsame.2 h)]
    · rw [if_neg h, if_neg (fun e => h (hsame.1 e))]
  have o5 := ok01 e717 k180 e718 e719 e720
  have i112 : ∀ {p q : Pt}, InB (WB 112) (nF dF ++ (pL p ++ pL q)) := fun {p q} => InB.append (a := WB 16) (b := WB 96) (nF_in _) (InB.append (a := WB 48) (b := WB 48) (pL_in _) (pL_in _))
  have i64 : ∀ {p : Pt}, InB (WB 64) (nF dF ++ pL p) := fun {p} => InB.append (a := WB 16) (b := WB 48) (nF_in _) (pL_in _)
  have i32 : ∀ {x y x' y' : Fp}, InB (BB 64) (encB x y ++ encB x' y') := fun {x y x' y'} => InB.append (a := BB 32) (b := BB 32) (eB_in _ _) (eB_in _ _)
  refine ⟨fun j a ha => one_outv o5 j a ha, A_FnPts_2 ⟨?_, by rw [e716]; rfl, ?_, ?_, by rw [e682]; rfl, ?_, ?_, by rw [e648]; rfl, ?_, ?_, by rw [e614]; rfl, ?_, ?_, ?_, ?_, ?_, ?_, ?_, ?_, ?_, ?_, ?_, ?_, trivial, n3, n1, trivial⟩⟩
  · show InB (WB 112) (seg ρ 4 64 ++ seg ρ 100 48)
    rw [k4, k100, List.append_assoc]; exact i112
  · show InB (BB 64) (seg ρ 277 32 ++ seg ρ 683 32)
    rw [k277, e683]; exact i32
  · show InB (WB 64) (seg ρ 4 16 ++ seg ρ 533 48)
    rw [e4, e533]; exact i64
  · show InB (BB 64) (seg ρ 245 32 ++ seg ρ 649 32)
    rw [k245, e649]; exact i32
  · show InB (WB 64) (seg ρ 4 16 ++ seg ρ 517 16 ++ seg ρ 36 32)
    rw [tP]; exact i64
  · show InB (BB 64) (seg ρ 213 32 ++ seg ρ 615 32)
    rw [k213, e615]; exact i32
  · show InB (WB 64) (seg ρ 4 16 ++ seg ρ 469 48)
    rw [e4, e469]; exact i64
  · show InB (BB 64) (seg ρ 181 32 ++ seg ρ 581 32)
    rw [k181, e581]; exact i32
  · show InB (WB 64) (seg ρ 4 16 ++ seg ρ 405 48)
    rw [e4, e405]; exact i64
  · show InB (WB 112) (seg ρ 4 16 ++ seg ρ 357 48 ++ seg ρ 357 48)
    rw [e4, e357, List.append_assoc]; exact i112
  · show InB (WB 64) (seg ρ 4 64)
    rw [k4]; exact i64
  · show InB (WB 112) (seg ρ 4 64 ++ seg ρ 453 16 ++ seg ρ 116 32)
    rw [tQ]; exact i112
  · show InB (WB 64) (seg ρ 4 16 ++ seg ρ 100 48)
    rw [e4, k100]; exact i64
  · show InB (WB 112) (seg ρ 4 64 ++ seg ρ 100 48)
    rw [k4, k100, List.append_assoc]; exact i112
  · show InB (WB 112) (seg ρ 4 16 ++ seg ρ 309 48 ++ seg ρ 309 48)
    rw [e4, e309, List.append_assoc]; exact i112
  · show InB (WB 112) (seg ρ 4 64 ++ seg ρ 20 48)
    rw [k4, k20, List.append_assoc]; exact i112
  · show sp_iSums.pre (seg ρ 68 32 ++ seg ρ 148 32)
    rw [k68, k148]
    refine ⟨?_, ?_⟩
    · rw [hAB.1]; exact ⟨hA, pa⟩
    · rw [hAB.2]; exact ⟨hB, pb⟩
  · show seg ρ 4 16 = nF dF
    exact e4
  · show seg ρ 4 16 = nF dF
    exact e4
end

end Go.X.Z
