/-
  A part of the proof of YtkjhclknbkleoaaGreat: texts G12, M28, N10, M29, M30, G11. No conditions.
-/
import Derived.Test.YtkjhclknbkleoaaGreatT16
import Derived.KernelRfl
set_option maxRecDepth 20000
namespace Go.X
noncomputable section
def g_timl_0 : List (Nat × Ins) := [(129, .op2 .geq .i64 (.v 80) (.l 0))]
def outs_timl_0 : List A := (vs 81 48)
def q_timl_0 : Bd × List (Nat × Ins) × List Asm × Bool × List A := (((bs 80 0 4294967295) ++ [((-1), (-1))] ++ (bs 48 0 4294967295)), g_timl_0, [.cond (.v 129) false], true, outs_timl_0)
def g_timl_1 : List (Nat × Ins) := (List.flatten [[(228, .op2 .sub .i64 (.v 80) (.l 1))], apps 2 ((vs 0 16) ++ (vs 130 48) ++ (vs 32 48)) 180 48, [(179, .op2 .eql .i64 (.v 178) (.l 1)), (178, .app 0 ((vs 16 16) ++ [(.v 80)]) 0)], apps 2 ((vs 0 16) ++ (vs 81 48) ++ (vs 81 48)) 130 48, [(129, .op2 .geq .i64 (.v 80) (.l 0))]])
def outs_timl_1 : List A := ((vs 0 80) ++ [(.v 228)] ++ (vs 180 48))
def q_timl_1 : Bd × List (Nat × Ins) × List Asm × Bool × List A := (((bs 80 0 4294967295) ++ [(0, 255)] ++ (bs 48 0 4294967295)), g_timl_1, [.pre 2 ((vs 0 16) ++ (vs 130 48) ++ (vs 32 48)), .cond (.v 179) true, .pre 0 ((vs 16 16) ++ [(.v 80)]), .pre 2 ((vs 0 16) ++ (vs 81 48) ++ (vs 81 48)), .cond (.v 129) true], false, outs_timl_1)
def g_timl_2 : List (Nat × Ins) := ([(180, .op2 .sub .i64 (.v 80) (.l 1)), (179, .op2 .eql .i64 (.v 178) (.l 1)), (178, .app 0 ((vs 16 16) ++ [(.v 80)]) 0)] ++ (apps 2 ((vs 0 16) ++ (vs 81 48) ++ (vs 81 48)) 130 48) ++ [(129, .op2 .geq .i64 (.v 80) (.l 0))])
def outs_timl_2 : List A := ((vs 0 80) ++ [(.v 180)] ++ (vs 130 48))
def q_timl_2 : Bd × List (Nat × Ins) × List Asm × Bool × List A := (((bs 80 0 4294967295) ++ [(0, 255)] ++ (bs 48 0 4294967295)), g_timl_2, [.cond (.v 179) false, .pre 0 ((vs 16 16) ++ [(.v 80)]), .pre 2 ((vs 0 16) ++ (vs 81 48) ++ (vs 81 48)), .cond (.v 129) true], false, outs_timl_2)
def q_timl := [q_timl_0, q_timl_1, q_timl_2]
abbrev l_cTimes : List Sem := [s_Bit, s_None, s_cPlus, s_timl]
def g_cTimes : List (Nat × Ins) := ((apps 3 (List.flatten [vs 0 80, [(.l 255)], ls 0 16, [(.v 80)], ls 0 15, [(.v 81)], ls 0 15]) 82 48) ++ [(81, .app 1 [] 1), (80, .app 1 [] 0)])
def outs_cTimes : List A := (vs 82 48)
def s_cTimes : Sem := Sem.st l_cTimes g_cTimes 80 130 outs_cTimes (bs 80 0 4294967295) (bs 48 0 4294967295) (by kernel_rfl)

theorem E_timl_0 (xs : List Int) (hx : InB ((bs 80 0 4294967295) ++ [((-1), (-1))] ++ (bs 48 0 4294967295)) xs) : ∃ v : Nat → Int, vals l_cTimes g_timl_0 xs = v ∧ seg v 0 129 = xs ∧ ((v 129 = op2 .geq .i64 (v 80) 0)) ∧ (True) ∧ (CondHold v [.cond (.v 129) false] = ((v 129 != 0) = false ∧ True)) ∧ outs_timl_0.map (A.ev v) = (seg v 81 48) :=
  Eq.mp (by kernel_rfl) (runQ (q := [.cond (.v 129) false]) (o := outs_timl_0) (l := l_cTimes) (g := g_timl_0) (nin := 129) (top := 130) (by kernel_rfl) hx)
theorem E_timl_1 (xs : List Int) (hx : InB ((bs 80 0 4294967295) ++ [(0, 255)] ++ (bs 48 0 4294967295)) xs) : ∃ v : Nat → Int, vals l_cTimes g_timl_1 xs = v ∧ seg v 0 129 = xs ∧ ((v 129 = op2 .geq .i64 (v 80) 0) ∧ (seg v 130 48 = gets (s_cPlus.f (seg v 0 16 ++ seg v 81 48 ++ seg v 81 48)) 0 48) ∧ (v 178 = (s_Bit.f (seg v 16 16 ++ [v 80])).getD 0 0) ∧ (v 179 = op2 .eql .i64 (v 178) 1) ∧ (seg v 180 48 = gets (s_cPlus.f (seg v 0 16 ++ seg v 130 48 ++ seg v 32 48)) 0 48) ∧ (v 228 = (v 80) - 1)) ∧ (True) ∧ (CondHold v [.pre 2 ((vs 0 16) ++ (vs 130 48) ++ (vs 32 48)), .cond (.v 179) true, .pre 0 ((vs 16 16) ++ [(.v 80)]), .pre 2 ((vs 0 16) ++ (vs 81 48) ++ (vs 81 48)), .cond (.v 129) true] = ((v 179 != 0) = true ∧ ((v 129 != 0) = true ∧ True))) ∧ outs_timl_1.map (A.ev v) = (seg v 0 80 ++ [v 228] ++ seg v 180 48) :=
  Eq.mp (by kernel_rfl) (runQ (q := [.pre 2 ((vs 0 16) ++ (vs 130 48) ++ (vs 32 48)), .cond (.v 179) true, .pre 0 ((vs 16 16) ++ [(.v 80)]), .pre 2 ((vs 0 16) ++ (vs 81 48) ++ (vs 81 48)), .cond (.v 129) true]) (o := outs_timl_1) (l := l_cTimes) (g := g_timl_1) (nin := 129) (top := 229) (by kernel_rfl) hx)
theorem E_timl_2 (xs : List Int) (hx : InB ((bs 80 0 4294967295) ++ [(0, 255)] ++ (bs 48 0 4294967295)) xs) : ∃ v : Nat → Int, vals l_cTimes g_timl_2 xs = v ∧ seg v 0 129 = xs ∧ ((v 129 = op2 .geq .i64 (v 80) 0) ∧ (seg v 130 48 = gets (s_cPlus.f (seg v 0 16 ++ seg v 81 48 ++ seg v 81 48)) 0 48) ∧ (v 178 = (s_Bit.f (seg v 16 16 ++ [v 80])).getD 0 0) ∧ (v 179 = op2 .eql .i64 (v 178) 1) ∧ (v 180 = (v 80) - 1)) ∧ (True) ∧ (CondHold v [.cond (.v 179) false, .pre 0 ((vs 16 16) ++ [(.v 80)]), .pre 2 ((vs 0 16) ++ (vs 81 48) ++ (vs 81 48)), .cond (.v 129) true] = ((v 179 != 0) = false ∧ ((v 129 != 0) = true ∧ True))) ∧ outs_timl_2.map (A.ev v) = (seg v 0 80 ++ [v 180] ++ seg v 130 48) :=
  Eq.mp (by kernel_rfl) (runQ (q := [.cond (.v 179) false, .pre 0 ((vs 16 16) ++ [(.v 80)]), .pre 2 ((vs 0 16) ++ (vs 81 48) ++ (vs 81 48)), .cond (.v 129) true]) (o := outs_timl_2) (l := l_cTimes) (g := g_timl_2) (nin := 129) (top := 181) (by kernel_rfl) hx)
theorem E_cTimes (xs : List Int) (hx : InB (bs 80 0 4294967295) xs) : ∃ v : Nat → Int, vals l_cTimes g_cTimes xs = v ∧ seg v 0 80 = xs ∧ ((seg v 80 2 = gets (s_None.f ([] : List Int)) 0 2) ∧ (seg v 82 48 = gets (s_timl.f (seg v 0 80 ++ [255, 0, 0, 0, 0, 0, 0, 0, 0, 0, 0, 0, 0, 0, 0, 0, 0, v 80, 0, 0, 0, 0, 0, 0, 0, 0, 0, 0, 0, 0, 0, 0, 0, v 81, 0, 0, 0, 0, 0, 0, 0, 0, 0, 0, 0, 0, 0, 0, 0])) 0 48)) ∧ (True) ∧ s_cTimes.f xs = (seg v 82 48) :=
  Eq.mp (by kernel_rfl) (runE (s := s_cTimes) (o := outs_cTimes) (l := l_cTimes) (g := g_cTimes) (nin := 80) (top := 130) (by kernel_rfl) hx (by kernel_rfl))

end
end Go.X

set_option maxRecDepth 20000
namespace Go.X

theorem app3 (a b c : List Int) : a ++ b ++ c = a ++ (b ++ c) := List.append_assoc a b c

theorem f_timl_app {c e p o : List Int} {i : Int} (hc : c.length = 16) (he : e.length = 16) (hp : p.length = 48) : f_timl (c ++ (e ++ (p ++ (i :: o)))) = timF c e p (i + 1).toNat o := by
  have h1 : (c ++ (e ++ (p ++ (i :: o)))).take 16 = c := List.take_left' hc
  have h2 : (c ++ (e ++ (p ++ (i :: o)))).drop 16 = e ++ (p ++ (i :: o)) := List.drop_left' hc
  have h3 : (e ++ (p ++ (i :: o))).take 16 = e := List.take_left' he
  have h4 : (c ++ (e ++ (p ++ (i :: o)))).drop 32 = p ++ (i :: o) := by
    rw [show 32 = 16 + 16 from rfl, ← List.drop_drop, h2]; exact List.drop_left' he
  have h5 : (p ++ (i :: o)).take 48 = p := List.take_left' hp
  have h6 : (c ++ (e ++ (p ++ (i :: o)))).drop 80 = i :: o := by
    rw [show 80 = 32 + 48 from rfl, ← List.drop_drop, h4]; exact List.drop_left' hp
  have h7 : (c ++ (e ++ (p ++ (i :: o)))).drop 81 = o := by
    rw [show 81 = 80 + 1 from rfl, ← List.drop_drop, h6]; rfl
  have h8 : (c ++ (e ++ (p ++ (i :: o)))).getD 80 0 = i := by
    have : (c ++ (e ++ (p ++ (i :: o)))).getD 80 0 = ((c ++ (e ++ (p ++ (i :: o)))).drop 80).getD 0 0 := by
      simp [List.getD_eq_getElem?_getD, List.getElem?_drop]
    rw [this, h6]; rfl
  unfold f_timl
  rw [h1, h2, h3, h4, h5, h7, h8]

theorem timl_in {c e p o : List Int} {i l h : Int} (hc : InB (WB 16) c) (he : InB (WB 16) e) (hp : InB (WB 48) p) (hi : l ≤ i ∧ i ≤ h) (ho : InB (WB 48) o) :
    InB (WB 16 ++ (WB 16 ++ (WB 48 ++ ([(l, h)] ++ WB 48)))) (c ++ (e ++ (p ++ (i :: o)))) :=
  InB.append hc (InB.append he (InB.append hp (InB.append (a := [(l, h)]) (x := [i]) ⟨hi.1, hi.2, trivial⟩ ho)))

theorem timl_dec {xs : List Int} (h : InB bTl xs) : ∃ c e p i o, xs = c ++ (e ++ (p ++ (i :: o))) ∧ InB (WB 16) c ∧ InB (WB 16) e ∧ InB (WB 48) p ∧ (-1 ≤ i ∧ i ≤ 255) ∧ InB (WB 48) o := by
  obtain ⟨h1, h2⟩ := InB.split h
  obtain ⟨h2, h3⟩ := InB.split h2
  obtain ⟨h3, h4⟩ := InB.split h3
  have h1 : InB (WB 16) (xs.take 16) := h1
  have h2 : InB (WB 16) ((xs.drop 16).take 16) := h2
  have h3 : InB (WB 48) (((xs.drop 16).drop 16).take 48) := h3
  have h4 : InB ([(-1, 255)] ++ WB 48) (((xs.drop 16).drop 16).drop 48) := h4
  generalize hz : ((xs.drop 16).drop 16).drop 48 = z at *
  match z, h4 with
  | i :: o, h4 =>
    refine ⟨xs.take 16, (xs.drop 16).take 16, ((xs.drop 16).drop 16).take 48, i, o, ?_, h1, h2, h3, ⟨h4.1, h4.2.1⟩, h4.2.2⟩
    rw [← hz, List.take_append_drop, List.take_append_drop, List.take_append_drop]

theorem segs_timl {v : Nat → Int} {c e p o : List Int} {i : Int} (h : seg v 0 129 = c ++ (e ++ (p ++ (i :: o)))) (hc : c.length = 16) (he : e.length = 16) (hp : p.length = 48) :
    seg v 0 16 = c ∧ seg v 16 16 = e ∧ seg v 32 48 = p ∧ v 80 = i ∧ seg v 81 48 = o := by
  obtain ⟨h1, h2⟩ := seg_two (n := 16) (m := 113) h hc
  obtain ⟨h2, h3⟩ := seg_two (n := 16) (m := 97) h2 he
  obtain ⟨h3, h4⟩ := seg_two (n := 48) (m := 49) h3 hp
  have e3 : seg v 80 49 = v 80 :: seg v 81 48 := rfl
  have h4 : seg v 80 49 = i :: o := h4
  rw [e3] at h4
  exact ⟨h1, h2, h3, (List.cons.inj h4).1, (List.cons.inj h4).2⟩

theorem lcov_timl : LCovered l_cTimes s_timl q_timl := by
  refine ⟨fun xs => (xs.getD 80 0 + 1).toNat, ?_⟩
  intro xs hx
  obtain ⟨c, e, p, i, o, rfl, hc, he, hp, hi, ho⟩ := timl_dec hx
  have lc : c.length = 16 := hc.len
  have le : e.length = 16 := he.len
  have lp : p.length = 48 := hp.len
  have hs : s_timl.f (c ++ (e ++ (p ++ (i :: o)))) = timF c e p (i + 1).toNat o := f_timl_app lc le lp
  have hgd : ∀ (j : Int) (o' : List Int), (c ++ (e ++ (p ++ (j :: o')))).getD 80 0 = j := by
    intro j o'
    have : c ++ (e ++ (p ++ (j :: o'))) = (c ++ (e ++ p)) ++ (j :: o') := by rw [List.append_assoc, List.append_assoc]
    have l80 : (c ++ (e ++ p)).length = 80 := by rw [List.length_append, List.length_append, lc, le, lp]
    rw [this, List.getD_eq_getElem?_getD, List.getElem?_append_right (by rw [l80]; decide), l80]
    rfl
  by_cases h0 : i < 0
  · obtain ⟨v, hv, hin, h129, -, hcn, hout⟩ := E_timl_0 (c ++ (e ++ (p ++ (i :: o)))) (timl_in (l := -1) (h := -1) hc he hp (by omega) ho)
    obtain ⟨-, -, -, e80, e81⟩ := segs_timl hin lc le lp
    rw [e80, geq0, decide_eq_false (by omega)] at h129
    refine ⟨q_timl_0, List.mem_of_getElem? (show q_timl[0]? = some q_timl_0 from rfl), timl_in (l := -1) (h := -1) hc he hp (by omega) ho, ?_, ?_⟩
    · show CondHold (vals l_cTimes g_timl_0 _) _
      rw [hv]
      refine hcn.symm ▸ ⟨?_, trivial⟩
      rw [h129]; rfl
    · show s_timl.f _ = outs_timl_0.map (A.ev (vals l_cTimes g_timl_0 _))
      rw [hv, hout, e81, hs, show i = -1 from by omega]; rfl
  · have hn : ((i.toNat : Nat) : Int) = i := by omega
    have hn1 : (i + 1).toNat = i.toNat + 1 := by omega
    have b1 := cPlus_bd hc ho ho
    have b2 := cPlus_bd hc b1 hp
    by_cases hb : bitOf e i = 1
    · obtain ⟨v, hv, hin, ⟨h129, h130, h178, h179, h180, h228⟩, -, hcn, hout⟩ := E_timl_1 (c ++ (e ++ (p ++ (i :: o)))) (timl_in (l := 0) (h := 255) hc he hp (by omega) ho)
      obtain ⟨e0, e16, e32, e80, e81⟩ := segs_timl hin lc le lp
      have e00 : seg v 0 80 = c ++ (e ++ p) := by
        have a1 : seg v 0 80 = seg v 0 16 ++ seg v 16 64 := seg_add v 16 64 0
        have a2 : seg v 16 64 = seg v 16 16 ++ seg v 32 48 := seg_add v 16 48 16
        rw [a1, a2, e0, e16, e32]
      rw [e80, geq0, decide_eq_true (by omega)] at h129
      rw [e16, e80] at h178
      have h178 : v 178 = bitOf e i := h178
      rw [h178, hb, eql_i] at h179
      rw [e0, e81, app3, gets_all (show _ = 48 from b1.len)] at h130
      rw [h130, e0, e32, app3, gets_all (show _ = 48 from b2.len)] at h180
      have eo : outs_timl_1.map (A.ev (vals l_cTimes g_timl_1 (c ++ (e ++ (p ++ (i :: o)))))) = c ++ (e ++ (p ++ ((i - 1) :: s_cPlus.f (c ++ (s_cPlus.f (c ++ (o ++ o)) ++ p))))) := by
        rw [hv, hout, e00, h228, e80, h180]; simp only [List.append_assoc]; rfl
      refine ⟨q_timl_1, List.mem_of_getElem? (show q_timl[1]? = some q_timl_1 from rfl), timl_in (l := 0) (h := 255) hc he hp (by omega) ho, ?_, ?_⟩
      · show CondHold (vals l_cTimes g_timl_1 _) _
        rw [hv]
        refine hcn.symm ▸ ⟨?_, ?_, trivial⟩
        · rw [h179]; rfl
        · rw [h129]; rfl
      · show InB s_timl.bi (outs_timl_1.map (A.ev (vals l_cTimes g_timl_1 _))) ∧ ((outs_timl_1.map (A.ev (vals l_cTimes g_timl_1 _))).getD 80 0 + 1).toNat < _ ∧ s_timl.f _ = s_timl.f (outs_timl_1.map (A.ev (vals l_cTimes g_timl_1 _)))
        rw [eo]
        refine ⟨timl_in (l := -1) (h := 255) hc he hp (by omega) b2, ?_, ?_⟩
        · show _ < ((c ++ (e ++ (p ++ (i :: o)))).getD 80 0 + 1).toNat
          rw [hgd, hgd]; omega
        · rw [hs, hn1]
          have : s_timl.f (c ++ (e ++ (p ++ ((i - 1) :: s_cPlus.f (c ++ (s_cPlus.f (c ++ (o ++ o)) ++ p)))))) = timF c e p (i - 1 + 1).toNat _ := f_timl_app lc le lp
          rw [this, show i - 1 + 1 = i from by omega]
          show timF c e p i.toNat (if bitOf e (i.toNat : Nat) = 1 then _ else _) = _
          rw [hn, if_pos hb]
    · obtain ⟨v, hv, hin, ⟨h129, h130, h178, h179, h180⟩, -, hcn, hout⟩ := E_timl_2 (c ++ (e ++ (p ++ (i :: o)))) (timl_in (l := 0) (h := 255) hc he hp (by omega) ho)
      obtain ⟨e0, e16, e32, e80, e81⟩ := segs_timl hin lc le lp
      have e00 : seg v 0 80 = c ++ (e ++ p) := by
        have a1 : seg v 0 80 = seg v 0 16 ++ seg v 16 64 := seg_add v 16 64 0
        have a2 : seg v 16 64 = seg v 16 16 ++ seg v 32 48 := seg_add v 16 48 16
        rw [a1, a2, e0, e16, e32]
      rw [e80, geq0, decide_eq_true (by omega)] at h129
      rw [e16, e80] at h178
      have h178 : v 178 = bitOf e i := h178
      have hb' : (bitOf e i == 1) = false := by rw [beq_eq_false_iff_ne]; exact hb
      rw [h178, eql_i, hb'] at h179
      rw [e0, e81, app3, gets_all (show _ = 48 from b1.len)] at h130
      have eo : outs_timl_2.map (A.ev (vals l_cTimes g_timl_2 (c ++ (e ++ (p ++ (i :: o)))))) = c ++ (e ++ (p ++ ((i - 1) :: s_cPlus.f (c ++ (o ++ o))))) := by
        rw [hv, hout, e00, h180, e80, h130]; simp only [List.append_assoc]; rfl
      refine ⟨q_timl_2, List.mem_of_getElem? (show q_timl[2]? = some q_timl_2 from rfl), timl_in (l := 0) (h := 255) hc he hp (by omega) ho, ?_, ?_⟩
      · show CondHold (vals l_cTimes g_timl_2 _) _
        rw [hv]
        refine hcn.symm ▸ ⟨?_, ?_, trivial⟩
        · rw [h179]; rfl
        · rw [h129]; rfl
      · show InB s_timl.bi (outs_timl_2.map (A.ev (vals l_cTimes g_timl_2 _))) ∧ ((outs_timl_2.map (A.ev (vals l_cTimes g_timl_2 _))).getD 80 0 + 1).toNat < _ ∧ s_timl.f _ = s_timl.f (outs_timl_2.map (A.ev (vals l_cTimes g_timl_2 _)))
        rw [eo]
        refine ⟨timl_in (l := -1) (h := 255) hc he hp (by omega) b1, ?_, ?_⟩
        · show _ < ((c ++ (e ++ (p ++ (i :: o)))).getD 80 0 + 1).toNat
          rw [hgd, hgd]; omega
        · rw [hs, hn1]
          have : s_timl.f (c ++ (e ++ (p ++ ((i - 1) :: s_cPlus.f (c ++ (o ++ o)))))) = timF c e p (i - 1 + 1).toNat _ := f_timl_app lc le lp
          rw [this, show i - 1 + 1 = i from by omega]
          show timF c e p i.toNat (if bitOf e (i.toNat : Nat) = 1 then _ else _) = _
          rw [hn, if_neg hb]

/-! the values -/

def Pt.tim (d : Fp) (p : Pt) (e : List Int) : Nat → Pt → Pt
  | 0, o => o
  | n + 1, o => Pt.tim d p e n (if bitOf e n = 1 then ((o.plus d o).plus d p) else o.plus d o)

theorem timF_val (d : Fp) (p : Pt) (e : List Int) : ∀ (n : Nat) (o : Pt), timF (nF d) e (pL p) n (pL o) = pL (Pt.tim d p e n o)
  | 0, _ => rfl
  | n + 1, o => by
    show timF (nF d) e (pL p) n (if bitOf e n = 1 then s_cPlus.f (nF d ++ (s_cPlus.f (nF d ++ (pL o ++ pL o)) ++ pL p)) else s_cPlus.f (nF d ++ (pL o ++ pL o))) = pL (Pt.tim d p e n (if bitOf e n = 1 then ((o.plus d o).plus d p) else o.plus d o))
    rw [cPlus_val, cPlus_val]
    by_cases h : bitOf e n = 1
    · rw [if_pos h, if_pos h, timF_val d p e n]
    · rw [if_neg h, if_neg h, timF_val d p e n]

theorem tim_ok {d : Fp} (hd : NSq d) {p : Pt} (hp : p.ok d) (e : List Int) : ∀ (n : Nat) {o : Pt}, o.ok d → (Pt.tim d p e n o).ok d
  | 0, _, h => h
  | n + 1, o, h => by
    have h2 := (Pt.plus_ok hd h h).1
    show (Pt.tim d p e n (if bitOf e n = 1 then ((o.plus d o).plus d p) else o.plus d o)).ok d
    by_cases hb : bitOf e n = 1
    · rw [if_pos hb]; exact tim_ok hd hp e n (Pt.plus_ok hd h2 hp).1
    · rw [if_neg hb]; exact tim_ok hd hp e n h2

/-- so many times a point -/
def Pt.mul (d : Fp) (e : List Int) (p : Pt) : Pt := Pt.tim d p e 256 Pt.none

theorem mul_ok {d : Fp} (hd : NSq d) {p : Pt} (hp : p.ok d) (e : List Int) : (Pt.mul d e p).ok d := tim_ok hd hp e 256 (Pt.none_ok d)

theorem pL_none : pL Pt.none = [0, 0, 0, 0, 0, 0, 0, 0, 0, 0, 0, 0, 0, 0, 0, 0, 1, 0, 0, 0, 0, 0, 0, 0, 0, 0, 0, 0, 0, 0, 0, 0, 1, 0, 0, 0, 0, 0, 0, 0, 0, 0, 0, 0, 0, 0, 0, 0] := by
  show nF 0 ++ (nF 1 ++ nF 1) = _
  rw [nF_zero, nF_one]; rfl

theorem cTimes_val (d : Fp) (p : Pt) {e : List Int} (he : InB (WB 16) e) : s_cTimes.f (nF d ++ (e ++ pL p)) = pL (Pt.mul d e p) := by
  obtain ⟨v, -, hin, ⟨h80, h82⟩, -, hf⟩ := E_cTimes (nF d ++ (e ++ pL p)) (InB.append (a := WB 16) (b := WB 64) (nF_in _) (InB.append (a := WB 16) (b := WB 48) he (pL_in _)))
  rw [None_val] at h80
  have a0 : v 80 = 1 := (List.cons.inj h80).1
  have a1 : v 81 = 1 := (List.cons.inj (List.cons.inj h80).2).1
  have ea : seg v 0 80 ++ [255, 0, 0, 0, 0, 0, 0, 0, 0, 0, 0, 0, 0, 0, 0, 0, 0, v 80, 0, 0, 0, 0, 0, 0, 0, 0, 0, 0, 0, 0, 0, 0, 0, v 81, 0, 0, 0, 0, 0, 0, 0, 0, 0, 0, 0, 0, 0, 0, 0] = nF d ++ (e ++ (pL p ++ ((255 : Int) :: pL Pt.none))) := by
    rw [hin, a0, a1, pL_none]; simp only [List.append_assoc]
  have hp : s_timl.f (nF d ++ (e ++ (pL p ++ ((255 : Int) :: pL Pt.none)))) = timF (nF d) e (pL p) (255 + 1 : Int).toNat (pL Pt.none) := f_timl_app (nF_len d) he.len (pL_len p)
  rw [ea, hp, show (255 + 1 : Int).toNat = 256 from rfl, timF_val, gets_all (pL_len _)] at h82
  rw [hf, h82]; rfl

end Go.X

set_option maxRecDepth 20000
namespace Go.X

/-! ### the base point -/

def bxN : Int := 15112221349535400772501151409588531511454012693041857206046113283949847762202
def byN : Int := 46316835694926478169428394003475163141307993866256225615783033603165251855960
def Bx : Fp := φ bxN
def By : Fp := φ byN

theorem by_mul : φ 5 * By = φ 4 := by
  have h : φ (5 * byN) = φ 4 := φ_iff.2 (by kernel_rfl)
  rw [φ_mul] at h; exact h

theorem five_ne : φ 5 ≠ 0 := by
  intro h
  have h2 := φ_iff.1 (h.trans φ_zero.symm)
  have h3 : (5 : Int) % p25519 = 5 := by kernel_rfl
  rw [h3] at h2
  exact absurd h2 (by decide)

theorem by_eq : φ 4 * inv (φ 5) = By := (eq_div five_ne (by have := by_mul; grind)).symm

theorem b_on : OnC dF Bx By := by
  unfold OnC
  rw [← dN_dF]
  have h : φ (byN * byN - bxN * bxN) = φ (1 + dN * (bxN * bxN) * (byN * byN)) := φ_iff.2 (by kernel_rfl)
  rw [φ_sub, φ_mul, φ_mul, φ_add, φ_one, φ_mul, φ_mul, φ_mul, φ_mul] at h
  exact h

theorem bx_even : ¬ Bx.val % 2 = 1 := by
  have h : (Bx.val % 2 == 0) = true := by kernel_rfl
  have := beq_iff_eq.1 h
  omega

theorem b_enc : encB Bx By = bB By := by
  unfold encB
  rw [if_neg bx_even]

theorem Base_val : s_Base.f (nF dF) = nF Bx ++ nF By ++ [1] := by
  obtain ⟨v, -, hin, ⟨h16, h17, h18, h34, h50, h82⟩, -, hf⟩ := E_Base (nF dF) (nF_in _)
  rw [Small_val (by decide) (by decide)] at h16 h17
  have h16 : v 16 = 4 := h16
  have h17 : v 17 = 5 := h17
  rw [h17, small_F (by decide) (by decide), Inv_val, gets_all (nF_len _)] at h18
  rw [h16, small_F (by decide) (by decide), h18, FMul_val, gets_all (nF_len _), by_eq] at h34
  have hb : s_NBytes.f (nF By) = encB Bx By := by rw [NBytes_nF, b_enc]; rfl
  have hi : InB (BB 32) (encB Bx By) := by rw [b_enc]; exact bB_in _
  rw [h34, hb, gets_all (show _ = 32 from hi.len)] at h50
  obtain ⟨d1, d2, d3⟩ := enc_dec b_on
  have hd : s_Dec.f (nF dF ++ encB Bx By) = nF Bx ++ nF By ++ [1, 1] := by
    have := (Dec_val hi).trans (if_pos d1)
    rw [d3, d2] at this
    exact this
  rw [hin, h50, hd, gets_all (by rw [List.length_append, List.length_append, nF_len, nF_len]; rfl)] at h82
  have e : seg v 82 33 = (seg v 82 34).take 33 := (seg_take v (by decide) 82).symm
  rw [hf, e, h82, show nF Bx ++ nF By ++ [(1 : Int), 1] = (nF Bx ++ nF By ++ [1]) ++ [1] from by rw [List.append_assoc _ [1]]; rfl]
  exact List.take_left' (by rw [List.length_append, List.length_append, nF_len, nF_len]; rfl)

def Bpt : Pt := ⟨Bx, By, 1⟩
theorem Bpt_ok : Bpt.ok dF := Pt.one_ok b_on

theorem base_pL : nF Bx ++ nF By ++ [1] ++ [0, 0, 0, 0, 0, 0, 0, 0, 0, 0, 0, 0, 0, 0, 0] = pL Bpt := by
  show _ = nF Bx ++ (nF By ++ nF 1)
  rw [nF_one]; simp only [List.append_assoc]; rfl

/-- a point that the law takes of 32 bytes, and the bytes that encode it -/
@[irreducible] def lawPt (b : List Int) : Pt := if okF (uF (eF b)) (vF (eF b)) then ⟨xF (eF b) (sgB b), eF b, 1⟩ else Pt.mul dF (s_Of32.f b ++ Z8) Bpt
@[irreducible] def lawB (b : List Int) : List Int := if okF (uF (eF b)) (vF (eF b)) then b else encB (lawPt b).x (lawPt b).y

theorem lawPt_ok (b : List Int) : (lawPt b).ok dF := by
  unfold lawPt
  by_cases h : okF (uF (eF b)) (vF (eF b))
  · rw [if_pos h]; exact Pt.one_ok (dec_on h)
  · rw [if_neg h]; exact mul_ok d_nsq Bpt_ok _

/-- the bytes are the point's -/
theorem lawB_pt (b : List Int) : isPt (lawB b) ∧ eF (lawB b) = (lawPt b).y ∧ xF (eF (lawB b)) (sgB (lawB b)) = (lawPt b).x := by
  have ho := (lawPt_ok b).2
  unfold lawB
  by_cases h : okF (uF (eF b)) (vF (eF b))
  · have e : lawPt b = ⟨xF (eF b) (sgB b), eF b, 1⟩ := by unfold lawPt; exact if_pos h
    rw [if_pos h, e, (Pt.one_x _ _).1, (Pt.one_x _ _).2]
    exact ⟨h, rfl, rfl⟩
  · rw [if_neg h]
    exact enc_dec ho

end Go.X

set_option maxRecDepth 20000
namespace Go.X

/-! ### what the program's functions of points give -/

def idB : List Int := [1, 0, 0, 0, 0, 0, 0, 0, 0, 0, 0, 0, 0, 0, 0, 0, 0, 0, 0, 0, 0, 0, 0, 0, 0, 0, 0, 0, 0, 0, 0, 0]
theorem idB_enc : encB 0 1 = idB := by
  unfold encB
  rw [if_neg (by decide)]
  kernel_rfl
theorem idB_in : InB (BB 32) idB := by
  have e : bB 1 = idB := by kernel_rfl
  rw [← e]; exact bB_in _
theorem idB_pt : isPt idB := by rw [← idB_enc]; exact (enc_dec (on_none dF)).1

theorem set_len {xs : List Int} (h : InB (BB 32) xs) : (sp_set.f xs).length = 15 := by
  show (qX xs ++ qY xs ++ qT xs).length = 15
  rw [List.length_append, List.length_append, (qX_val h).1.len, (qY_val h).1.len, (qT_in h).1.len]; rfl

/-- the limbs of the point of 32 bytes -/
def ptL (xs : List Int) : List Int := qX xs ++ (qY xs ++ (one5 ++ qT xs))

theorem seg_set {v : Nat → Int} {k : Nat} {xs : List Int} (hb : InB (BB 32) xs) (h : seg v k 15 = sp_set.f xs) : seg v k 5 = qX xs ∧ seg v (k + 5) 5 = qY xs ∧ seg v (k + 10) 5 = qT xs ∧ seg v k 10 ++ [1, 0, 0, 0, 0] ++ seg v (k + 10) 5 = ptL xs := by
  have h : seg v k 15 = (qX xs ++ qY xs) ++ qT xs := h
  obtain ⟨h1, h2⟩ := seg_two (n := 10) (m := 5) h (by rw [List.length_append, (qX_val hb).1.len, (qY_val hb).1.len]; rfl)
  obtain ⟨h3, h4⟩ := seg_two (n := 5) (m := 5) h1 (qX_val hb).1.len
  refine ⟨h3, h4, h2, ?_⟩
  rw [h1, h2]
  unfold ptL
  simp only [List.append_assoc]; rfl

theorem ptL_in {xs : List Int} (h : InB (BB 32) xs) : InB LB4 (ptL xs) := InB.append (qX_val h).1 (InB.append (qY_val h).1 (InB.append one5_in (qT_in h).1))

theorem take5 {a b : List Int} (ha : a.length = 5) : (a ++ b).take 5 = a := List.take_left' ha
theorem drop5 {a b : List Int} (ha : a.length = 5) : (a ++ b).drop 5 = b := List.drop_left' ha

/-- the parts of twenty limbs -/
theorem limbs4 {a b c d : List Int} (ha : a.length = 5) (hb : b.length = 5) (hc : c.length = 5) : pX (a ++ (b ++ (c ++ d))) = φ (v51 a) ∧ pY (a ++ (b ++ (c ++ d))) = φ (v51 b) ∧ pZ (a ++ (b ++ (c ++ d))) = φ (v51 c) ∧ pT (a ++ (b ++ (c ++ d))) = φ (v51 d) := by
  have e10 : (a ++ (b ++ (c ++ d))).drop 10 = c ++ d := by rw [show 10 = 5 + 5 from rfl, ← List.drop_drop, drop5 ha, drop5 hb]
  have e15 : (a ++ (b ++ (c ++ d))).drop 15 = d := by rw [show 15 = 10 + 5 from rfl, ← List.drop_drop, e10, drop5 hc]
  unfold pX pY pZ pT
  rw [take5 ha, drop5 ha, take5 hb, e10, e15, take5 hc]
  exact ⟨rfl, rfl, rfl, rfl⟩

theorem ptL_val {xs : List Int} (h : InB (BB 32) xs) : pX (ptL xs) = xF (eF xs) (sgB xs) ∧ pY (ptL xs) = eF xs ∧ pZ (ptL xs) = 1 ∧ pT (ptL xs) = xF (eF xs) (sgB xs) * eF xs := by
  obtain ⟨h1, h2, h3, h4⟩ := limbs4 (d := qT xs) (qX_val h).1.len (qY_val h).1.len (show one5.length = 5 from rfl)
  exact ⟨h1.trans (qX_val h).2, h2.trans (qY_val h).2, h3.trans one5_φ, h4.trans (qT_in h).2⟩

/-- no coordinates that are nought as numbers are nought as limbs -/
theorem nz_of {xs : List Int} (h : ¬ (pX xs = 0 ∧ pY xs = 0)) : nz xs := by
  rintro ⟨h1, h2⟩
  have hz : φ (v51 ZZ5) = 0 := by kernel_rfl
  refine h ⟨?_, ?_⟩
  · unfold pX; rw [h1, hz]
  · unfold pY; rw [h2, hz]

theorem ptL_nz {xs : List Int} (h : InB (BB 32) xs) (hp : isPt xs) : nz (ptL xs) := by
  refine nz_of ?_
  obtain ⟨h1, h2, -, -⟩ := ptL_val h
  rw [h1, h2]
  exact Pt.nz (Pt.one_ok (dec_on hp))

def sp_id : SemP := ⟨fun _ => sp_set.f idB, fun _ => True⟩
def sp_iExt : SemP := ⟨fun xs => bB (xF (eF xs) (sgB xs)) ++ (bB (eF xs) ++ (bB 1 ++ bB (xF (eF xs) (sgB xs) * eF xs))), fun xs => InB (BB 32) xs ∧ isPt xs⟩

/-- four coordinates, in bytes -/
def b4 (xs : List Int) (k : Nat) : List Int := (xs.drop (32 * k)).take 32
end Go.X

set_option maxRecDepth 20000
namespace Go.X

/-! ### the law of coordinates, with no program in sight -/

/-- what the law's calls compute -/
structure Cx6 (F : Fns) (pr : Prs) (b c : List Int) : Prop where
  hb : InB (BB 32) b
  hc : InB (BB 32) c
  f0 : F 0 = s_NBytes.f
  f1 : F 1 = s_Of32.f
  f3 : F 2 = s_Field.f
  f4 : F 3 = s_FAdd.f
  f5 : F 4 = s_FSub.f
  f6 : F 5 = s_FMul.f
  f7 : F 6 = s_same32.f
  f9 : F 7 [] = nF dF
  f10 : F 8 = f_Enc
  f12 : F 10 = f_cSame
  f13 : F 11 = sp_iExt.f
  f16 : F 14 [] = c
  f17 : F 15 (nF dF) = pL (lawPt b) ++ lawB b
  p0 : pr 0 = InB (WB 16)
  p1 : pr 1 = InB (BB 32)
  p3 : pr 2 = InB (WB 16)
  p4 : pr 3 = InB (WB 32)
  p5 : pr 4 = InB (WB 32)
  p6 : pr 5 = InB (WB 32)
  p7 : pr 6 = InB (BB 64)
  p9 : pr 7 []
  p10 : pr 8 = InB (WB 64)
  p11 : pr 9 = InB (WB 16)
  p12 : pr 10 = InB (WB 112)
  p13 : pr 11 = sp_iExt.pre
  p16 : pr 14 []
  p17 : pr 15 (nF dF)

theorem eB_in (x y : Fp) : InB (BB 32) (encB x y) := by
  unfold encB
  by_cases h : x.val % 2 = 1
  · rw [if_pos h]; exact top_or (bB_in y)
  · rw [if_neg h]; exact bB_in y
theorem eB_len (x y : Fp) : (encB x y).length = 32 := (eB_in x y).len

theorem lawB_or (b : List Int) : lawB b = b ∨ lawB b = encB (lawPt b).x (lawPt b).y := by
  unfold lawB
  by_cases h0 : okF (uF (eF b)) (vF (eF b))
  · rw [if_pos h0]; exact .inl rfl
  · rw [if_neg h0]; exact .inr rfl
theorem in_or {bo : Bd} {x y z : List Int} (h : x = y ∨ x = z) (hy : InB bo y) (hz : InB bo z) : InB bo x := by
  rcases h with h | h
  · rw [h]; exact hy
  · rw [h]; exact hz
theorem lawB_in {b : List Int} (hb : InB (BB 32) b) : InB (BB 32) (lawB b) := in_or (lawB_or b) hb (eB_in (lawPt b).x (lawPt b).y)
/-! the coordinates, with the changed one -/

end Go.X

set_option maxRecDepth 20000
namespace Go.X
noncomputable section
abbrev l_d2P : List Sem := [s_Add, s_Add, s_dP]
def g_d2P : List (Nat × Ins) := ((apps 0 (vs 0 10) 10 5) ++ (apps 2 [] 5 5) ++ (apps 2 [] 0 5))
def outs_d2P : List A := (vs 10 5)
def s_d2P : Sem := Sem.st l_d2P g_d2P 0 15 outs_d2P [] ([(0, 2251799813840876)] ++ (bs 4 0 2251799813693438)) (by kernel_rfl)

theorem E_d2P (xs : List Int) (hx : InB [] xs) : ∃ v : Nat → Int, vals l_d2P g_d2P xs = v ∧ seg v 0 0 = xs ∧ ((seg v 0 5 = gets (s_dP.f ([] : List Int)) 0 5) ∧ (seg v 5 5 = gets (s_dP.f ([] : List Int)) 0 5) ∧ (seg v 10 5 = gets (s_Add.f (seg v 0 10)) 0 5)) ∧ (True) ∧ s_d2P.f xs = (seg v 10 5) :=
  Eq.mp (by kernel_rfl) (runE (s := s_d2P) (o := outs_d2P) (l := l_d2P) (g := g_d2P) (nin := 0) (top := 15) (by kernel_rfl) hx (by kernel_rfl))

abbrev l_P3c : List Sem := [s_feMulG, s_feMulG, s_feMulG, s_Add, s_Add, s_Sub, s_Sub, s_Set, s_d2P]
def g_P3c : List (Nat × Ins) := (List.flatten [apps 0 ((vs 15 5) ++ (vs 30 5)) 35 5, apps 8 [] 30 5, apps 5 ((vs 5 5) ++ (vs 0 5)) 25 5, apps 3 ((vs 5 5) ++ (vs 0 5)) 20 5])
def outs_P3c : List A := ((vs 20 10) ++ (vs 35 5))
def s_P3c : Sem := Sem.st l_P3c g_P3c 20 40 outs_P3c (bs 20 0 4503599627370458) (List.flatten [[(0, 2251799813840876)], bs 4 0 2251799813693438, [(0, 2251799813840876)], bs 4 0 2251799813693438, [(0, 2251799813686995), (0, 2251799813685627), (0, 2251799813685555), (0, 2251799813685483), (0, 2251799813685411)]]) (by kernel_rfl)

theorem E_P3c (xs : List Int) (hx : InB (bs 20 0 4503599627370458) xs) : ∃ v : Nat → Int, vals l_P3c g_P3c xs = v ∧ seg v 0 20 = xs ∧ ((seg v 20 5 = gets (s_Add.f (seg v 5 5 ++ seg v 0 5)) 0 5) ∧ (seg v 25 5 = gets (s_Sub.f (seg v 5 5 ++ seg v 0 5)) 0 5) ∧ (seg v 30 5 = gets (s_d2P.f ([] : List Int)) 0 5) ∧ (seg v 35 5 = gets (s_feMulG.f (seg v 15 5 ++ seg v 30 5)) 0 5)) ∧ (True) ∧ s_P3c.f xs = (seg v 20 10 ++ seg v 35 5) :=
  Eq.mp (by kernel_rfl) (runE (s := s_P3c) (o := outs_P3c) (l := l_P3c) (g := g_P3c) (nin := 20) (top := 40) (by kernel_rfl) hx (by kernel_rfl))

abbrev l_Addd : List Sem := [s_carry]
def g_Addd : List (Nat × Ins) := ((apps 0 (vs 5 5) 10 5) ++ [(9, .op2 .add .u64 (.v 4) (.v 4)), (8, .op2 .add .u64 (.v 3) (.v 3)), (7, .op2 .add .u64 (.v 2) (.v 2)), (6, .op2 .add .u64 (.v 1) (.v 1)), (5, .op2 .add .u64 (.v 0) (.v 0))])
def outs_Addd : List A := (vs 10 5)
def s_Addd : Sem := Sem.st l_Addd g_Addd 5 15 outs_Addd (bs 5 0 4503599627370458) ([(0, 2251799813840876)] ++ (bs 4 0 2251799813693438)) (by kernel_rfl)

theorem E_Addd (xs : List Int) (hx : InB (bs 5 0 4503599627370458) xs) : ∃ v : Nat → Int, vals l_Addd g_Addd xs = v ∧ seg v 0 5 = xs ∧ ((v 5 = (v 0) + (v 0)) ∧ (v 6 = (v 1) + (v 1)) ∧ (v 7 = (v 2) + (v 2)) ∧ (v 8 = (v 3) + (v 3)) ∧ (v 9 = (v 4) + (v 4)) ∧ (seg v 10 5 = gets (s_carry.f (seg v 5 5)) 0 5)) ∧ (True) ∧ s_Addd.f xs = (seg v 10 5) :=
  Eq.mp (by kernel_rfl) (runE (s := s_Addd) (o := outs_Addd) (l := l_Addd) (g := g_Addd) (nin := 5) (top := 15) (by kernel_rfl) hx (by kernel_rfl))

abbrev l_P1Add : List Sem := [s_feMulG, s_feMulG, s_feMulG, s_Add, s_Add, s_Sub, s_Sub, s_Addd]
def g_P1Add : List (Nat × Ins) := (List.flatten [apps 5 ((vs 70 5) ++ (vs 60 5)) 90 5, apps 3 ((vs 70 5) ++ (vs 60 5)) 85 5, apps 3 (vs 50 10) 80 5, apps 5 (vs 50 10) 75 5, apps 7 (vs 65 5) 70 5, apps 0 ((vs 10 5) ++ (vs 30 5)) 65 5, apps 0 ((vs 15 5) ++ (vs 35 5)) 60 5, apps 0 ((vs 45 5) ++ (vs 25 5)) 55 5, apps 0 ((vs 40 5) ++ (vs 20 5)) 50 5, apps 5 ((vs 5 5) ++ (vs 0 5)) 45 5, apps 3 ((vs 5 5) ++ (vs 0 5)) 40 5])
def outs_P1Add : List A := (vs 75 20)
def s_P1Add : Sem := Sem.st l_P1Add g_P1Add 40 95 outs_P1Add (bs 40 0 4503599627370458) (List.flatten [[(0, 2251799813840876)], bs 4 0 2251799813693438, [(0, 2251799813840876)], bs 4 0 2251799813693438, [(0, 2251799813840876)], bs 4 0 2251799813693438, [(0, 2251799813840876)], bs 4 0 2251799813693438]) (by kernel_rfl)

theorem E_P1Add (xs : List Int) (hx : InB (bs 40 0 4503599627370458) xs) : ∃ v : Nat → Int, vals l_P1Add g_P1Add xs = v ∧ seg v 0 40 = xs ∧ ((seg v 40 5 = gets (s_Add.f (seg v 5 5 ++ seg v 0 5)) 0 5) ∧ (seg v 45 5 = gets (s_Sub.f (seg v 5 5 ++ seg v 0 5)) 0 5) ∧ (seg v 50 5 = gets (s_feMulG.f (seg v 40 5 ++ seg v 20 5)) 0 5) ∧ (seg v 55 5 = gets (s_feMulG.f (seg v 45 5 ++ seg v 25 5)) 0 5) ∧ (seg v 60 5 = gets (s_feMulG.f (seg v 15 5 ++ seg v 35 5)) 0 5) ∧ (seg v 65 5 = gets (s_feMulG.f (seg v 10 5 ++ seg v 30 5)) 0 5) ∧ (seg v 70 5 = gets (s_Addd.f (seg v 65 5)) 0 5) ∧ (seg v 75 5 = gets (s_Sub.f (seg v 50 10)) 0 5) ∧ (seg v 80 5 = gets (s_Add.f (seg v 50 10)) 0 5) ∧ (seg v 85 5 = gets (s_Add.f (seg v 70 5 ++ seg v 60 5)) 0 5) ∧ (seg v 90 5 = gets (s_Sub.f (seg v 70 5 ++ seg v 60 5)) 0 5)) ∧ (True) ∧ s_P1Add.f xs = (seg v 75 20) :=
  Eq.mp (by kernel_rfl) (runE (s := s_P1Add) (o := outs_P1Add) (l := l_P1Add) (g := g_P1Add) (nin := 40) (top := 95) (by kernel_rfl) hx (by kernel_rfl))

abbrev l_P1Sub : List Sem := [s_feMulG, s_feMulG, s_feMulG, s_Add, s_Add, s_Sub, s_Sub, s_Addd]
def g_P1Sub : List (Nat × Ins) := (List.flatten [apps 3 ((vs 70 5) ++ (vs 60 5)) 90 5, apps 5 ((vs 70 5) ++ (vs 60 5)) 85 5, apps 3 (vs 50 10) 80 5, apps 5 (vs 50 10) 75 5, apps 7 (vs 65 5) 70 5, apps 0 ((vs 10 5) ++ (vs 30 5)) 65 5, apps 0 ((vs 15 5) ++ (vs 35 5)) 60 5, apps 0 ((vs 45 5) ++ (vs 20 5)) 55 5, apps 0 ((vs 40 5) ++ (vs 25 5)) 50 5, apps 5 ((vs 5 5) ++ (vs 0 5)) 45 5, apps 3 ((vs 5 5) ++ (vs 0 5)) 40 5])
def outs_P1Sub : List A := (vs 75 20)
def s_P1Sub : Sem := Sem.st l_P1Sub g_P1Sub 40 95 outs_P1Sub (bs 40 0 4503599627370458) (List.flatten [[(0, 2251799813840876)], bs 4 0 2251799813693438, [(0, 2251799813840876)], bs 4 0 2251799813693438, [(0, 2251799813840876)], bs 4 0 2251799813693438, [(0, 2251799813840876)], bs 4 0 2251799813693438]) (by kernel_rfl)

theorem E_P1Sub (xs : List Int) (hx : InB (bs 40 0 4503599627370458) xs) : ∃ v : Nat → Int, vals l_P1Sub g_P1Sub xs = v ∧ seg v 0 40 = xs ∧ ((seg v 40 5 = gets (s_Add.f (seg v 5 5 ++ seg v 0 5)) 0 5) ∧ (seg v 45 5 = gets (s_Sub.f (seg v 5 5 ++ seg v 0 5)) 0 5) ∧ (seg v 50 5 = gets (s_feMulG.f (seg v 40 5 ++ seg v 25 5)) 0 5) ∧ (seg v 55 5 = gets (s_feMulG.f (seg v 45 5 ++ seg v 20 5)) 0 5) ∧ (seg v 60 5 = gets (s_feMulG.f (seg v 15 5 ++ seg v 35 5)) 0 5) ∧ (seg v 65 5 = gets (s_feMulG.f (seg v 10 5 ++ seg v 30 5)) 0 5) ∧ (seg v 70 5 = gets (s_Addd.f (seg v 65 5)) 0 5) ∧ (seg v 75 5 = gets (s_Sub.f (seg v 50 10)) 0 5) ∧ (seg v 80 5 = gets (s_Add.f (seg v 50 10)) 0 5) ∧ (seg v 85 5 = gets (s_Sub.f (seg v 70 5 ++ seg v 60 5)) 0 5) ∧ (seg v 90 5 = gets (s_Add.f (seg v 70 5 ++ seg v 60 5)) 0 5)) ∧ (True) ∧ s_P1Sub.f xs = (seg v 75 20) :=
  Eq.mp (by kernel_rfl) (runE (s := s_P1Sub) (o := outs_P1Sub) (l := l_P1Sub) (g := g_P1Sub) (nin := 40) (top := 95) (by kernel_rfl) hx (by kernel_rfl))

abbrev l_fromP1 : List Sem := [s_feMulG, s_feMulG, s_feMulG]
def g_fromP1 : List (Nat × Ins) := (List.flatten [apps 0 (vs 0 10) 35 5, apps 0 (vs 10 10) 30 5, apps 0 (vs 5 10) 25 5, apps 0 ((vs 0 5) ++ (vs 15 5)) 20 5])
def outs_fromP1 : List A := (vs 20 20)
def s_fromP1 : Sem := Sem.st l_fromP1 g_fromP1 20 40 outs_fromP1 (bs 20 0 4503599627370458) [(0, 2251799813686995), (0, 2251799813685627), (0, 2251799813685555), (0, 2251799813685483), (0, 2251799813685411), (0, 2251799813686995), (0, 2251799813685627), (0, 2251799813685555), (0, 2251799813685483), (0, 2251799813685411), (0, 2251799813686995), (0, 2251799813685627), (0, 2251799813685555), (0, 2251799813685483), (0, 2251799813685411), (0, 2251799813686995), (0, 2251799813685627), (0, 2251799813685555), (0, 2251799813685483), (0, 2251799813685411)] (by kernel_rfl)

theorem E_fromP1 (xs : List Int) (hx : InB (bs 20 0 4503599627370458) xs) : ∃ v : Nat → Int, vals l_fromP1 g_fromP1 xs = v ∧ seg v 0 20 = xs ∧ ((seg v 20 5 = gets (s_feMulG.f (seg v 0 5 ++ seg v 15 5)) 0 5) ∧ (seg v 25 5 = gets (s_feMulG.f (seg v 5 10)) 0 5) ∧ (seg v 30 5 = gets (s_feMulG.f (seg v 10 10)) 0 5) ∧ (seg v 35 5 = gets (s_feMulG.f (seg v 0 10)) 0 5)) ∧ (True) ∧ s_fromP1.f xs = (seg v 20 20) :=
  Eq.mp (by kernel_rfl) (runE (s := s_fromP1) (o := outs_fromP1) (l := l_fromP1) (g := g_fromP1) (nin := 20) (top := 40) (by kernel_rfl) hx (by kernel_rfl))

abbrev l_P2P3 : List Sem := [s_Set]
def g_P2P3 : List (Nat × Ins) := []
def outs_P2P3 : List A := []
def s_P2P3 : Sem := Sem.st l_P2P3 g_P2P3 20 20 outs_P2P3 (bs 20 0 4503599627370458) [] (by kernel_rfl)

abbrev l_P2P1 : List Sem := [s_feMulG, s_feMulG, s_feMulG]
def g_P2P1 : List (Nat × Ins) := ((apps 0 (vs 10 10) 30 5) ++ (apps 0 (vs 5 10) 25 5) ++ (apps 0 ((vs 0 5) ++ (vs 15 5)) 20 5))
def outs_P2P1 : List A := (vs 20 15)
def s_P2P1 : Sem := Sem.st l_P2P1 g_P2P1 20 35 outs_P2P1 (bs 20 0 4503599627370458) [(0, 2251799813686995), (0, 2251799813685627), (0, 2251799813685555), (0, 2251799813685483), (0, 2251799813685411), (0, 2251799813686995), (0, 2251799813685627), (0, 2251799813685555), (0, 2251799813685483), (0, 2251799813685411), (0, 2251799813686995), (0, 2251799813685627), (0, 2251799813685555), (0, 2251799813685483), (0, 2251799813685411)] (by kernel_rfl)

theorem E_P2P1 (xs : List Int) (hx : InB (bs 20 0 4503599627370458) xs) : ∃ v : Nat → Int, vals l_P2P1 g_P2P1 xs = v ∧ seg v 0 20 = xs ∧ ((seg v 20 5 = gets (s_feMulG.f (seg v 0 5 ++ seg v 15 5)) 0 5) ∧ (seg v 25 5 = gets (s_feMulG.f (seg v 5 10)) 0 5) ∧ (seg v 30 5 = gets (s_feMulG.f (seg v 10 10)) 0 5)) ∧ (True) ∧ s_P2P1.f xs = (seg v 20 15) :=
  Eq.mp (by kernel_rfl) (runE (s := s_P2P1) (o := outs_P2P1) (l := l_P2P1) (g := g_P2P1) (nin := 20) (top := 35) (by kernel_rfl) hx (by kernel_rfl))

abbrev l_Dbl : List Sem := [s_feSqG, s_feSqG, s_Add, s_Add, s_Sub, s_Sub, s_Addd]
def g_Dbl : List (Nat × Ins) := (List.flatten [apps 4 ((vs 30 5) ++ (vs 50 5)) 60 5, apps 4 (vs 40 10) 55 5, apps 4 ((vs 20 5) ++ (vs 15 5)) 50 5, apps 2 ((vs 20 5) ++ (vs 15 5)) 45 5, apps 1 (vs 35 5) 40 5, apps 2 (vs 0 10) 35 5, apps 6 (vs 25 5) 30 5, apps 0 (vs 10 5) 25 5, apps 0 (vs 5 5) 20 5, apps 0 (vs 0 5) 15 5])
def outs_Dbl : List A := ((vs 55 5) ++ (vs 45 10) ++ (vs 60 5))
def s_Dbl : Sem := Sem.st l_Dbl g_Dbl 15 65 outs_Dbl (bs 15 0 4503599627370458) (List.flatten [[(0, 2251799813840876)], bs 4 0 2251799813693438, [(0, 2251799813840876)], bs 4 0 2251799813693438, [(0, 2251799813840876)], bs 4 0 2251799813693438, [(0, 2251799813840876)], bs 4 0 2251799813693438]) (by kernel_rfl)

theorem E_Dbl (xs : List Int) (hx : InB (bs 15 0 4503599627370458) xs) : ∃ v : Nat → Int, vals l_Dbl g_Dbl xs = v ∧ seg v 0 15 = xs ∧ ((seg v 15 5 = gets (s_feSqG.f (seg v 0 5)) 0 5) ∧ (seg v 20 5 = gets (s_feSqG.f (seg v 5 5)) 0 5) ∧ (seg v 25 5 = gets (s_feSqG.f (seg v 10 5)) 0 5) ∧ (seg v 30 5 = gets (s_Addd.f (seg v 25 5)) 0 5) ∧ (seg v 35 5 = gets (s_Add.f (seg v 0 10)) 0 5) ∧ (seg v 40 5 = gets (s_feSqG.f (seg v 35 5)) 0 5) ∧ (seg v 45 5 = gets (s_Add.f (seg v 20 5 ++ seg v 15 5)) 0 5) ∧ (seg v 50 5 = gets (s_Sub.f (seg v 20 5 ++ seg v 15 5)) 0 5) ∧ (seg v 55 5 = gets (s_Sub.f (seg v 40 10)) 0 5) ∧ (seg v 60 5 = gets (s_Sub.f (seg v 30 5 ++ seg v 50 5)) 0 5)) ∧ (True) ∧ s_Dbl.f xs = (seg v 55 5 ++ seg v 45 10 ++ seg v 60 5) :=
  Eq.mp (by kernel_rfl) (runE (s := s_Dbl) (o := outs_Dbl) (l := l_Dbl) (g := g_Dbl) (nin := 15) (top := 65) (by kernel_rfl) hx (by kernel_rfl))

abbrev l_Turned : List Sem := [s_FNeg]
def g_Turned : List (Nat × Ins) := (apps 0 (vs 16 16) 64 16)
def outs_Turned : List A := (vs 64 16)
def s_Turned : Sem := Sem.st l_Turned g_Turned 64 80 outs_Turned (bs 64 0 4294967295) (bs 16 0 4294967295) (by kernel_rfl)

theorem E_Turned (xs : List Int) (hx : InB (bs 64 0 4294967295) xs) : ∃ v : Nat → Int, vals l_Turned g_Turned xs = v ∧ seg v 0 64 = xs ∧ ((seg v 64 16 = gets (s_FNeg.f (seg v 16 16)) 0 16)) ∧ (True) ∧ s_Turned.f xs = (seg v 64 16) :=
  Eq.mp (by kernel_rfl) (runE (s := s_Turned) (o := outs_Turned) (l := l_Turned) (g := g_Turned) (nin := 64) (top := 80) (by kernel_rfl) hx (by kernel_rfl))

end
end Go.X
