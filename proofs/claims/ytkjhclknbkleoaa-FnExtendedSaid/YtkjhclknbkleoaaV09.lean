/-
  A part of the proof of Ytkjhclknbkleoaa: texts M18, GA, X30, GB. No conditions.
-/
import Derived.Test.YtkjhclknbkleoaaV08
import Derived.KernelRfl
set_option maxRecDepth 20000
namespace Go.X

/-! ### the root of a ratio -/

def Z16 : List Int := [0, 0, 0, 0, 0, 0, 0, 0, 0, 0, 0, 0, 0, 0, 0, 0]

def rX (xs : List Int) : List Int := s_FMul.f (xs.take 16 ++ s_Inv.f (xs.drop 16))
def rQ (xs : List Int) : List Int := f_root (rX xs ++ E8 ++ nF iF)
def f_Ratio (xs : List Int) : List Int :=
  if xs.take 16 = Z16 then Z16 ++ [1] else if xs.drop 16 = Z16 then Z16 ++ [0] else
  if (rQ xs).getD 16 0 ≠ 0 then (rQ xs).take 16 ++ [1] else (f_root (s_FMul.f (rX xs ++ nF iF) ++ E8 ++ nF iF)).take 16 ++ [0]

theorem Inv_bd {x : List Int} (hx : InB (WB 16) x) : InB (WB 16) (s_Inv.f x) :=
  s_Inv.ok _ _ (show s_Inv.bt (WB 16) = some (WB 16) by kernel_rfl) _ hx

theorem rX_bd {xs : List Int} (h : InB (WB 32) xs) : InB (WB 16) (rX xs) := by
  obtain ⟨h1, h2⟩ := InB.split (a := WB 16) (b := WB 16) h
  exact FMul_bd h1 (Inv_bd h2)

theorem root_bd {x : List Int} (hx : InB (WB 16) x) : InB (WB 16 ++ [(0, 1)]) (f_root (x ++ E8 ++ nF iF)) := by
  have h : InB (WB 48) (x ++ E8 ++ nF iF) := InB.append (a := WB 32) (b := WB 16) (sub_in hx (fold_bo _)) (nF_in _)
  exact InB.append (rT_bd h) one_in

theorem root_bd16 {x : List Int} (hx : InB (WB 16) x) : InB (WB 16) ((f_root (x ++ E8 ++ nF iF)).take 16) :=
  (InB.split (a := WB 16) (b := [(0, 1)]) (root_bd hx)).1

theorem Z_in : InB (WB 16) Z16 := by rw [Z16, ← nF_zero]; exact nF_in 0

def s_Ratio : Sem := Sem.of f_Ratio (WB 32) (WB 16 ++ [(0, 1)]) (fun xs h => by
  unfold f_Ratio
  have h1 : InB [(0, 1)] [(1 : Int)] := ⟨by decide, by decide, trivial⟩
  have h0 : InB [(0, 1)] [(0 : Int)] := ⟨by decide, by decide, trivial⟩
  split
  · exact InB.append Z_in h1
  split
  · exact InB.append Z_in h0
  split
  · exact InB.append (root_bd16 (rX_bd h)) h1
  · exact InB.append (root_bd16 (FMul_bd (rX_bd h) (nF_in _))) h0)

theorem Plus_P {k : Int} (h0 : 0 ≤ k) (h1 : k < 4294967296) : s_Plus.f [4294967277, 4294967295, 4294967295, 4294967295, 4294967295, 4294967295, 4294967295, 2147483647, 0, 0, 0, 0, 0, 0, 0, 0, k, 0, 0, 0, 0, 0, 0, 0, 0, 0, 0, 0, 0, 0, 0, 0] = toD 4294967296 16 (57896044618658097711785492504343953926634992332820282019728792003956564819949 + k) := by
  have hk : InB (WB 16) [k, 0, 0, 0, 0, 0, 0, 0, 0, 0, 0, 0, 0, 0, 0, 0] := InD_InB (b := 4294967296) rfl ⟨h0, h1, by decide, by decide, by decide, by decide, by decide, by decide, by decide, by decide, by decide, by decide, by decide, by decide, by decide, by decide, by decide, by decide, by decide, by decide, by decide, by decide, by decide, by decide, by decide, by decide, by decide, by decide, by decide, by decide, by decide, by decide, trivial⟩
  have h := Plus_val _ (sub_in P_in hk)
  rw [List.take_left' (i := 16) rfl, List.drop_left' (i := 16) rfl, P_ofD] at h
  have e : ofD 4294967296 [k, 0, 0, 0, 0, 0, 0, 0, 0, 0, 0, 0, 0, 0, 0, 0] = k := by
    show k + 4294967296 * ofD 4294967296 (List.replicate 15 0) = k
    rw [tz]; omega
  rw [e] at h
  exact h

theorem odd_iF : (s_Odd.f (nF iF)).getD 0 0 = 0 := by
  rw [Odd_val]; rfl

theorem seg17 {v : Nat → Int} {x : Nat} {l : List Int} (h : seg v x 17 = gets l 0 17) (hl : l.length = 17) : seg v x 16 = l.take 16 ∧ v (x + 16) = l.getD 16 0 := by
  rw [gets_all hl] at h
  refine ⟨?_, ?_⟩
  · rw [← h, seg_take v (show 16 ≤ 17 by decide)]
  · rw [← h, seg_getD 16 (by decide)]

theorem getD16 {l : List Int} {t : Int} (hl : l.length = 16) : (l ++ [t]).getD 16 0 = t := by
  rw [List.getD_eq_getElem?_getD, List.getElem?_append_right (by omega), hl]; rfl

theorem cov_Ratio : Covered l_Ratio s_Ratio q_Ratio := by
  intro xs hx
  have hx : InB (WB 32) xs := hx
  have hs : s_Ratio.f xs = f_Ratio xs := rfl
  obtain ⟨b1, b2⟩ := InB.split (a := WB 16) (b := WB 16) hx
  have b1 : InB (WB 16) (xs.take 16) := b1
  have b2 : InB (WB 16) (xs.drop 16) := b2
  have lX : (rX xs).length = 16 := (rX_bd hx).len
  have lQ : (rQ xs).length = 17 := (root_bd (rX_bd hx)).len
  have lI : (s_Inv.f (xs.drop 16)).length = 16 := (Inv_bd b2).len
  have key : ∀ {v : Nat → Int}, seg v 0 32 = xs → seg v 32 16 = gets (s_Inv.f (seg v 16 16)) 0 16 → seg v 48 16 = gets (s_FMul.f (seg v 0 16 ++ seg v 32 16)) 0 16 → seg v 64 16 = gets (s_mone.f ([] : List Int)) 0 16 → v 80 = (s_Odd.f (seg v 64 16)).getD 0 0 →
      seg v 0 16 = xs.take 16 ∧ seg v 16 16 = xs.drop 16 ∧ seg v 48 16 = rX xs ∧ seg v 64 16 = nF iF ∧ v 80 = 0 := by
    intro v hin h32 h48 h64 h80
    have e0 : seg v 0 16 = xs.take 16 := by rw [← hin, seg_take _ (by decide)]
    have e1 : seg v 16 16 = xs.drop 16 := by rw [← hin, seg_drop _ (by decide)]
    rw [e1, gets_all lI] at h32
    rw [e0, h32] at h48
    have h48 : seg v 48 16 = gets (rX xs) 0 16 := h48
    rw [gets_all lX] at h48
    rw [mone_val, gets_all (nF_len _)] at h64
    rw [h64, odd_iF] at h80
    exact ⟨e0, e1, h48, h64, h80⟩
  by_cases hu : xs.take 16 = Z16
  · obtain ⟨v, hv, hin, ⟨h32, h48, h64, h80, h81, h82, he⟩, -, hc, ho⟩ := E_Ratio_0 xs hx
    obtain ⟨e0, e1, e48, e64, e80⟩ := key hin h32 h48 h64 h80
    rw [Small_val (by decide) (by decide)] at h81
    have h81 : v 81 = 3 := h81
    rw [h81, Plus_P (by decide) (by decide), gets_all (toD_len _ _ _)] at h82
    obtain ⟨s1, he⟩ := shr16 h82 (by decide) (by decide) he
    obtain ⟨s2, he⟩ := shr16 s1 (by decide) (by decide) he
    obtain ⟨s3, he⟩ := shr16 s2 (by decide) (by decide) he
    have he : v 236 = b2i ((seg v 0 16) == Z16) := he
    rw [e0, b2i_beq, if_pos hu] at he
    refine ⟨q_Ratio_0, List.mem_of_getElem? (show q_Ratio[0]? = some q_Ratio_0 from rfl), hx, ?_, ?_⟩
    · show CondHold (vals l_Ratio g_Ratio_0 xs) _
      rw [hv, hc, he, e80]; exact ⟨rfl, rfl, trivial⟩
    · show _ = outs_Ratio_0.map (A.ev (vals l_Ratio g_Ratio_0 xs))
      rw [hv, ho, hs, f_Ratio, if_pos hu]; rfl
  by_cases hw : xs.drop 16 = Z16
  · obtain ⟨v, hv, hin, ⟨h32, h48, h64, h80, h81, h82, he⟩, -, hc, ho⟩ := E_Ratio_1 xs hx
    obtain ⟨e0, e1, e48, e64, e80⟩ := key hin h32 h48 h64 h80
    rw [Small_val (by decide) (by decide)] at h81
    have h81 : v 81 = 3 := h81
    rw [h81, Plus_P (by decide) (by decide), gets_all (toD_len _ _ _)] at h82
    obtain ⟨s1, he⟩ := shr16 h82 (by decide) (by decide) he
    obtain ⟨s2, he⟩ := shr16 s1 (by decide) (by decide) he
    obtain ⟨s3, he⟩ := shr16 s2 (by decide) (by decide) he
    obtain ⟨he, he2⟩ := he
    have he : v 236 = b2i ((seg v 0 16) == Z16) := he
    have he2 : v 237 = b2i ((seg v 16 16) == Z16) := he2
    rw [e0, b2i_beq, if_neg hu] at he
    rw [e1, b2i_beq, if_pos hw] at he2
    refine ⟨q_Ratio_1, List.mem_of_getElem? (show q_Ratio[1]? = some q_Ratio_1 from rfl), hx, ?_, ?_⟩
    · show CondHold (vals l_Ratio g_Ratio_1 xs) _
      rw [hv, hc, he, he2, e80]; exact ⟨rfl, rfl, rfl, trivial⟩
    · show _ = outs_Ratio_1.map (A.ev (vals l_Ratio g_Ratio_1 xs))
      rw [hv, ho, hs, f_Ratio, if_neg hu, if_pos hw]; rfl
  by_cases hq : (rQ xs).getD 16 0 ≠ 0
  · obtain ⟨v, hv, hin, ⟨h32, h48, h64, h80, h81, h82, he⟩, -, hc, ho⟩ := E_Ratio_2 xs hx
    obtain ⟨e0, e1, e48, e64, e80⟩ := key hin h32 h48 h64 h80
    rw [Small_val (by decide) (by decide)] at h81
    have h81 : v 81 = 3 := h81
    rw [h81, Plus_P (by decide) (by decide), gets_all (toD_len _ _ _)] at h82
    obtain ⟨s1, he⟩ := shr16 h82 (by decide) (by decide) he
    obtain ⟨s2, he⟩ := shr16 s1 (by decide) (by decide) he
    obtain ⟨s3, he⟩ := shr16 s2 (by decide) (by decide) he
    obtain ⟨he, he2, he3⟩ := he
    have he : v 236 = b2i ((seg v 0 16) == Z16) := he
    have he2 : v 237 = b2i ((seg v 16 16) == Z16) := he2
    rw [e0, b2i_beq, if_neg hu] at he
    rw [e1, b2i_beq, if_neg hw] at he2
    rw [e48, s3, e64] at he3
    obtain ⟨e238, e254⟩ := seg17 (l := rQ xs) he3 lQ
    have e254 : v 254 = (rQ xs).getD 16 0 := e254
    refine ⟨q_Ratio_2, List.mem_of_getElem? (show q_Ratio[2]? = some q_Ratio_2 from rfl), hx, ?_, ?_⟩
    · show CondHold (vals l_Ratio g_Ratio_2 xs) _
      rw [hv, hc, he, he2, e80, e254]; exact ⟨ne_t hq, rfl, rfl, rfl, trivial⟩
    · show _ = outs_Ratio_2.map (A.ev (vals l_Ratio g_Ratio_2 xs))
      rw [hv, ho, hs, f_Ratio, if_neg hu, if_neg hw, if_pos hq, e238]
  · obtain ⟨v, hv, hin, ⟨h32, h48, h64, h80, h81, h82, he⟩, -, hc, ho⟩ := E_Ratio_3 xs hx
    obtain ⟨e0, e1, e48, e64, e80⟩ := key hin h32 h48 h64 h80
    rw [Small_val (by decide) (by decide)] at h81
    have h81 : v 81 = 3 := h81
    rw [h81, Plus_P (by decide) (by decide), gets_all (toD_len _ _ _)] at h82
    obtain ⟨s1, he⟩ := shr16 h82 (by decide) (by decide) he
    obtain ⟨s2, he⟩ := shr16 s1 (by decide) (by decide) he
    obtain ⟨s3, he⟩ := shr16 s2 (by decide) (by decide) he
    obtain ⟨he, he2, he3, he4, he5⟩ := he
    have he : v 236 = b2i ((seg v 0 16) == Z16) := he
    have he2 : v 237 = b2i ((seg v 16 16) == Z16) := he2
    rw [e0, b2i_beq, if_neg hu] at he
    rw [e1, b2i_beq, if_neg hw] at he2
    rw [e48, s3, e64] at he3
    obtain ⟨e238, e254⟩ := seg17 (l := rQ xs) he3 lQ
    have e254 : v 254 = (rQ xs).getD 16 0 := e254
    have e4832 : seg v 48 32 = rX xs ++ nF iF := by rw [← e48, ← e64]; exact seg_add v 16 16 48
    have bM := FMul_bd (rX_bd hx) (nF_in iF)
    rw [e4832, gets_all (show _ = 16 from bM.len)] at he4
    rw [he4, s3, e64] at he5
    obtain ⟨e271, -⟩ := seg17 (l := f_root (s_FMul.f (rX xs ++ nF iF) ++ E8 ++ nF iF)) he5 (root_bd bM).len
    refine ⟨q_Ratio_3, List.mem_of_getElem? (show q_Ratio[3]? = some q_Ratio_3 from rfl), hx, ?_, ?_⟩
    · show CondHold (vals l_Ratio g_Ratio_3 xs) _
      rw [hv, hc, he, he2, e80, e254]; exact ⟨ne_f hq, rfl, rfl, rfl, trivial⟩
    · show _ = outs_Ratio_3.map (A.ev (vals l_Ratio g_Ratio_3 xs))
      rw [hv, ho, hs, f_Ratio, if_neg hu, if_neg hw, if_neg hq, e271]

/-- the ratio that is said is the one of the program -/
theorem Ratio_val (u v : Fp) : f_Ratio (nF u ++ nF v) = nF (sqF u v) ++ [if okF u v then 1 else 0] := by
  have eX : rX (nF u ++ nF v) = nF (u * inv v) := by
    unfold rX
    rw [take_nF, drop_nF, Inv_val, FMul_val]
  have eZ : Z16 = nF 0 := nF_zero.symm
  have eQ : rQ (nF u ++ nF v) = nF (rtF (u * inv v)) ++ [if rtF (u * inv v) * rtF (u * inv v) = u * inv v then 1 else 0] := by
    unfold rQ
    rw [eX, root_val]
  unfold f_Ratio
  rw [eQ, eX, take_nF, drop_nF, eZ, FMul_val, root_val, List.take_left' (nF_len _), List.take_left' (nF_len _)]
  by_cases hu : u = 0
  · subst hu
    obtain ⟨h1, h2⟩ := zero_u v
    rw [if_pos rfl, h2, if_pos h1]
  · rw [if_neg (fun e => hu (nF_inj e))]
    by_cases hv : v = 0
    · subst hv
      obtain ⟨h1, h2⟩ := zero_v hu
      rw [if_pos rfl, h2, if_neg h1]
    · rw [if_neg (fun e => hv (nF_inj e))]
      rw [getD16 (nF_len _)]
      by_cases h : okF u v
      · rw [if_pos ((ok_rt hu hv).1 h), if_pos (by decide), if_pos h, sq_ok hu hv h]
      · rw [if_neg (fun e => h ((ok_rt hu hv).2 e)), if_neg (by decide), if_neg h, sq_nok hu hv h]

end Go.X

namespace Go.X
noncomputable section
abbrev l_feMulGx := l_feMulG
abbrev g_feMulGx := g_feMulG
abbrev outs_feMulGx := outs_feMulG

abbrev l_feMulGy := l_feMulG
abbrev g_feMulGy := g_feMulG
abbrev outs_feMulGy := outs_feMulG

abbrev l_feSqGx := l_feSqG
abbrev g_feSqGx := g_feSqG
abbrev outs_feSqGx := outs_feSqG

abbrev l_feMul : List Sem := [s_feMulG, s_feMulG, s_feMulG]
def g_feMul : List (Nat × Ins) := (apps 0 (vs 0 10) 10 5)
def outs_feMul : List A := (vs 10 5)

theorem E_feMul (xs : List Int) (hx : InB (bs 10 0 4503599627370458) xs) : ∃ v : Nat → Int, vals l_feMul g_feMul xs = v ∧ seg v 0 10 = xs ∧ ((seg v 10 5 = gets (s_feMulG.f (seg v 0 10)) 0 5)) ∧ (True) ∧ True := by
  have h := run_eqs (l := l_feMul) (g := g_feMul) (nin := 10) (top := 15) (b := (bs 10 0 4503599627370458)) (by kernel_rfl) hx
  obtain ⟨v, hv⟩ : ∃ v, vals l_feMul g_feMul xs = v := ⟨_, rfl⟩
  rw [hv] at h
  exact ⟨v, hv, h.1, Eq.mp (by kernel_rfl) h.2.1, trivial, trivial⟩

abbrev l_feMulx : List Sem := [s_feMulG, s_feMulG, s_feMulG]
def g_feMulx : List (Nat × Ins) := (apps 1 (vs 0 10) 10 5)
def outs_feMulx : List A := (vs 10 5)

theorem E_feMulx (xs : List Int) (hx : InB (bs 10 0 4503599627370458) xs) : ∃ v : Nat → Int, vals l_feMulx g_feMulx xs = v ∧ seg v 0 10 = xs ∧ ((seg v 10 5 = gets (s_feMulG.f (seg v 0 10)) 0 5)) ∧ (True) ∧ True := by
  have h := run_eqs (l := l_feMulx) (g := g_feMulx) (nin := 10) (top := 15) (b := (bs 10 0 4503599627370458)) (by kernel_rfl) hx
  obtain ⟨v, hv⟩ : ∃ v, vals l_feMulx g_feMulx xs = v := ⟨_, rfl⟩
  rw [hv] at h
  exact ⟨v, hv, h.1, Eq.mp (by kernel_rfl) h.2.1, trivial, trivial⟩

abbrev l_feMuly : List Sem := [s_feMulG, s_feMulG, s_feMulG]
def g_feMuly : List (Nat × Ins) := (apps 2 (vs 0 10) 10 5)
def outs_feMuly : List A := (vs 10 5)

theorem E_feMuly (xs : List Int) (hx : InB (bs 10 0 4503599627370458) xs) : ∃ v : Nat → Int, vals l_feMuly g_feMuly xs = v ∧ seg v 0 10 = xs ∧ ((seg v 10 5 = gets (s_feMulG.f (seg v 0 10)) 0 5)) ∧ (True) ∧ True := by
  have h := run_eqs (l := l_feMuly) (g := g_feMuly) (nin := 10) (top := 15) (b := (bs 10 0 4503599627370458)) (by kernel_rfl) hx
  obtain ⟨v, hv⟩ : ∃ v, vals l_feMuly g_feMuly xs = v := ⟨_, rfl⟩
  rw [hv] at h
  exact ⟨v, hv, h.1, Eq.mp (by kernel_rfl) h.2.1, trivial, trivial⟩

abbrev l_feSq : List Sem := [s_feSqG, s_feSqG]
def g_feSq : List (Nat × Ins) := (apps 0 (vs 0 5) 5 5)
def outs_feSq : List A := (vs 5 5)

theorem E_feSq (xs : List Int) (hx : InB (bs 5 0 4503599627370458) xs) : ∃ v : Nat → Int, vals l_feSq g_feSq xs = v ∧ seg v 0 5 = xs ∧ ((seg v 5 5 = gets (s_feSqG.f (seg v 0 5)) 0 5)) ∧ (True) ∧ True := by
  have h := run_eqs (l := l_feSq) (g := g_feSq) (nin := 5) (top := 10) (b := (bs 5 0 4503599627370458)) (by kernel_rfl) hx
  obtain ⟨v, hv⟩ : ∃ v, vals l_feSq g_feSq xs = v := ⟨_, rfl⟩
  rw [hv] at h
  exact ⟨v, hv, h.1, Eq.mp (by kernel_rfl) h.2.1, trivial, trivial⟩

abbrev l_feSqx : List Sem := [s_feSqG, s_feSqG]
def g_feSqx : List (Nat × Ins) := (apps 1 (vs 0 5) 5 5)
def outs_feSqx : List A := (vs 5 5)

theorem E_feSqx (xs : List Int) (hx : InB (bs 5 0 4503599627370458) xs) : ∃ v : Nat → Int, vals l_feSqx g_feSqx xs = v ∧ seg v 0 5 = xs ∧ ((seg v 5 5 = gets (s_feSqG.f (seg v 0 5)) 0 5)) ∧ (True) ∧ True := by
  have h := run_eqs (l := l_feSqx) (g := g_feSqx) (nin := 5) (top := 10) (b := (bs 5 0 4503599627370458)) (by kernel_rfl) hx
  obtain ⟨v, hv⟩ : ∃ v, vals l_feSqx g_feSqx xs = v := ⟨_, rfl⟩
  rw [hv] at h
  exact ⟨v, hv, h.1, Eq.mp (by kernel_rfl) h.2.1, trivial, trivial⟩

abbrev l_Mul := l_feMul
abbrev g_Mul := g_feMul
abbrev outs_Mul := outs_feMul

abbrev l_Mulx := l_feMulx
abbrev g_Mulx := g_feMulx
abbrev outs_Mulx := outs_feMulx

abbrev l_Muly := l_feMuly
abbrev g_Muly := g_feMuly
abbrev outs_Muly := outs_feMuly

abbrev l_Sq := l_feSq
abbrev g_Sq := g_feSq
abbrev outs_Sq := outs_feSq

abbrev l_Sqx := l_feSqx
abbrev g_Sqx := g_feSqx
abbrev outs_Sqx := outs_feSqx

abbrev l_Addx := l_Add
abbrev g_Addx := g_Add
abbrev outs_Addx := outs_Add

abbrev l_Subx := l_Sub
abbrev g_Subx := g_Sub
abbrev outs_Subx := outs_Sub

abbrev l_Sely := l_Sel
abbrev g_Sely := g_Sel
abbrev outs_Sely := outs_Sel

abbrev l_put24 := l_put32
abbrev g_put24 := g_put32
abbrev outs_put24 := outs_put32

abbrev l_put16 := l_put32
abbrev g_put16 := g_put32
abbrev outs_put16 := outs_put32

abbrev l_put8 := l_put32
abbrev g_put8 := g_put32
abbrev outs_put8 := outs_put32

abbrev l_Invertx := l_Invert
abbrev g_Invertx := g_Invert
abbrev outs_Invertx := outs_Invert

end
end Go.X

namespace Go.X
open Go

theorem straightB {P : Program} {W : World0 P} {ts : List Tmpl} {l : List Sem} (hl : GoodL W ts l) {T : Tmpl} {s : Sem} {fn : Func} {p : Path}
    (hf : P.funcs[T.f]? = some fn) (hc : ∀ args w, (callFunc T.f args).run P w = .ok (.enter T.f args) w)
    (hr : runBody P ts [] fn p.fuel T.args T.mem T.nin p.orc = some p.out) (hb : (Nat.ble l.length 1000000 && ownT T && T.hasPre && condFree p.out.g.asm && pathB T l p && subB s.bi p.bi) = true)
    (hF : ∀ xs, InB s.bi xs → s.f xs = runF l p.out.g.ssa p.ft.outs xs) : Good W T s := by
  have hn : T.hasPre = true := by
    simp only [Bool.and_eq_true] at hb
    exact hb.1.1.1.2
  let s0 : Sem := ⟨runF l p.out.g.ssa p.ft.outs, s.bi, fun _ => none, fun _ _ h => by cases h⟩
  exact Good.swap (s := s0) (straight (s := s0) hl hf hc hr hb rfl) hn rfl (fun xs hx => (hF xs hx).symm)

end Go.X

namespace Go.X
theorem eqF_feMul (xs : List Int) (hx : InB (LB ++ LB) xs) : s_feMulG.f xs = runF l_feMul g_feMul outs_feMul xs := by
  obtain ⟨v, hv, hin, he, -, -⟩ := E_feMul xs hx
  rw [hin, gets5 (feMul_bd xs hx) rfl] at he
  have h1 : ∀ v : Nat → Int, outs_feMul.map (A.ev v) = seg v 10 5 := fun v => rfl
  show s_feMulG.f xs = outs_feMul.map (A.ev (vals l_feMul g_feMul xs))
  rw [h1, hv, he]

theorem eqF_feMulx (xs : List Int) (hx : InB (LB ++ LB) xs) : s_feMulG.f xs = runF l_feMulx g_feMulx outs_feMulx xs := by
  obtain ⟨v, hv, hin, he, -, -⟩ := E_feMulx xs hx
  rw [hin, gets5 (feMul_bd xs hx) rfl] at he
  have h1 : ∀ v : Nat → Int, outs_feMulx.map (A.ev v) = seg v 10 5 := fun v => rfl
  show s_feMulG.f xs = outs_feMulx.map (A.ev (vals l_feMulx g_feMulx xs))
  rw [h1, hv, he]

theorem eqF_feMuly (xs : List Int) (hx : InB (LB ++ LB) xs) : s_feMulG.f xs = runF l_feMuly g_feMuly outs_feMuly xs := by
  obtain ⟨v, hv, hin, he, -, -⟩ := E_feMuly xs hx
  rw [hin, gets5 (feMul_bd xs hx) rfl] at he
  have h1 : ∀ v : Nat → Int, outs_feMuly.map (A.ev v) = seg v 10 5 := fun v => rfl
  show s_feMulG.f xs = outs_feMuly.map (A.ev (vals l_feMuly g_feMuly xs))
  rw [h1, hv, he]

theorem eqF_feSq (xs : List Int) (hx : InB LB xs) : s_feSqG.f xs = runF l_feSq g_feSq outs_feSq xs := by
  obtain ⟨v, hv, hin, he, -, -⟩ := E_feSq xs hx
  rw [hin, gets5 (feSq_bd xs hx) rfl] at he
  have h1 : ∀ v : Nat → Int, outs_feSq.map (A.ev v) = seg v 5 5 := fun v => rfl
  show s_feSqG.f xs = outs_feSq.map (A.ev (vals l_feSq g_feSq xs))
  rw [h1, hv, he]

theorem eqF_feSqx (xs : List Int) (hx : InB LB xs) : s_feSqG.f xs = runF l_feSqx g_feSqx outs_feSqx xs := by
  obtain ⟨v, hv, hin, he, -, -⟩ := E_feSqx xs hx
  rw [hin, gets5 (feSq_bd xs hx) rfl] at he
  have h1 : ∀ v : Nat → Int, outs_feSqx.map (A.ev v) = seg v 5 5 := fun v => rfl
  show s_feSqG.f xs = outs_feSqx.map (A.ev (vals l_feSqx g_feSqx xs))
  rw [h1, hv, he]

end Go.X
