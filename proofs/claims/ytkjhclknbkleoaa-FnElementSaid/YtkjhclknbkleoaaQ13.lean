/-
  A part of the proof of Ytkjhclknbkleoaa: texts S1, S2, X31, L1, M19, L2, G8, Rl. No conditions.
-/
import Derived.Test.YtkjhclknbkleoaaQ12
import Derived.KernelRfl
import Derived.WalkKit
import Derived.OwnWalk
import Derived.Laws.MakeOwn
import Derived.Laws.OwnMore
import Derived.Laws.CopyRow
import Derived.Test.YtkjhclknbkleoaaProg
namespace Go.X.Y
open Go.Proofs Go.RowKit

/-- the bytes of a slice that came in -/
def Row8 (w : World) (a : Option Addr) (len : Nat) (zs : List Int) : Prop :=
  (a = none ∧ len = 0) ∨
  ∃ x, a = some x ∧ len ≤ zs.length ∧ (∀ i, i < zs.length → w.cell? (x.add i) = some (.int .u8 (zs.getD i 0)))

/-- the first bytes, with noughts behind -/
def pad (n len : Nat) (zs : List Int) : List Int := (zs.take (min len n)) ++ List.replicate (n - min len n) 0

theorem block_addr (a : Addr) (i : Nat) : (a.add i).block = a.block := by unfold Addr.add; split <;> rfl

theorem info5 : (Try.prog.info? 5).map (fun i => (i.zero, i.size, i.bytes)) = some (some (.int .u8 0), 1, 1) := by kernel_rfl

set_option maxHeartbeats 4000000 in
set_option maxRecDepth 100000 in
theorem sized_calls (n : Nat) (hn : n ≤ 100) (a : Option Addr) (len cap : Nat) (zs : List Int) (w : World) (hr : Row8 w a len zs) (hc : a = none → cap = 0) (hb : ∀ x, a = some x → len ≠ 0 → x.block < w.heap.size) :
    Calls Try.prog 8 #[.slice a len cap, .int .i64 n] w fun e w' => e = .returned (.slice (some ⟨w.heap.size, 0, none⟩) n n) ∧
      ∃ Y : Array Value, Y.toList = (pad n len zs).map (Value.int .u8) ∧ w' = (w.alloc (.cells (madeCells #[.int .u8 0] n) 5)).setRow w.heap.size Y := by
  obtain ⟨i0, hi, hz0, hz1, hz2⟩ := info_parts info5
  have hinfo : (Try.prog.info? 5).map (·.size) = some 1 := by rw [hi]; simp [hz1]
  obtain ⟨M, hM⟩ : ∃ M, M = madeCells #[Value.int .u8 0] n := ⟨_, rfl⟩
  have hMl : M.toList = List.replicate n (.int .u8 0) := by rw [hM]; exact toList_madeCells_one _ _
  have hMs : M.size = n := by rw [hM, size_madeCells]
  have hmk : ∀ W : World, (Instr.makeSlice 22 (.int .i64 (n : Int)) (.int .i64 (n : Int))).run Try.prog W = .ok (.slice (some ⟨W.heap.size, 0, none⟩) n n) (W.alloc (.cells M 5)) := fun W => by
    have h := run_make (P := Try.prog) W 22 5 i0 (.int .u8 0) Try.underlying22 hi hz0 .i64 .i64 (n : Int) (n : Int) (by omega) (by omega) (by rw [hz2]; omega) (by omega)
    rw [hz1] at h
    have e : madeCells (Value.int .u8 0).cells ((n : Int).toNat * 1) = M := by rw [hM]; simp [Value.cells]
    rw [e] at h
    simpa using h
  rw [← hM]
  clear hM
  have hself : (w.alloc (.cells M 5)).setRow w.heap.size M = w.alloc (.cells M 5) := setRow_self _ _ _ 5 (0, 0) (heap_alloc_new w _)
  rcases hr with ⟨rfl, rfl⟩ | ⟨x, rfl, hl, hcell⟩
  · obtain rfl := hc rfl
    have hcp := run_copy_nil (P := Try.prog) (w.alloc (.cells M 5)) 22 22 3 5 ⟨w.heap.size, 0, none⟩ n n Try.underlying22 (by rw [hinfo]; rfl)
    go_enter Try.func8, Try.ntmps8
    go_wp2
    go_ret
    refine ⟨rfl, M, ?_, hself.symm⟩
    rw [hMl]
    simp [pad]
  · have hlen : (((zs.take (min len n)).map (Value.int .u8))).length = Nat.min len n := by
      rw [List.length_map, List.length_take]; show min (min len n) zs.length = min len n; omega
    have hcp := run_copy_row (P := Try.prog) (w.alloc (.cells M 5)) 22 22 3 5 w.heap.size 0 n n x len cap M 5 ((zs.take (min len n)).map (Value.int .u8)) Try.underlying22 hinfo (heap_alloc_new w _) hlen
      (by
        intro j v hj
        rw [List.getElem?_map, List.getElem?_take] at hj
        by_cases hjl : j < min len n
        · rw [if_pos hjl] at hj
          have hjz : j < zs.length := by omega
          rw [List.getElem?_eq_getElem hjz] at hj
          have hc1 := hcell j hjz
          rw [List.getD_eq_getElem?_getD, List.getElem?_eq_getElem hjz] at hc1
          have hxb := hb x rfl (by omega)
          have : (w.alloc (.cells M 5)).cell? (x.add j) = w.cell? (x.add j) := World.cell?_alloc_lt w _ (x.add j) (by rw [block_addr]; exact hxb)
          rw [this, hc1]
          exact hj
        · rw [if_neg hjl] at hj; simp at hj)
      (by rw [hlen, hMs, Nat.zero_add]; exact Nat.min_le_right _ _)
      (by
        intro v hv
        obtain ⟨m, -, rfl⟩ := List.mem_map.1 hv
        rfl)
    obtain ⟨Y, hY⟩ : ∃ Y, Y = (M.toList.take 0 ++ (zs.take (min len n)).map (Value.int .u8) ++ M.toList.drop (0 + ((zs.take (min len n)).map (Value.int .u8)).length)).toArray := ⟨_, rfl⟩
    rw [← hY] at hcp
    have hYl : Y.toList = (pad n len zs).map (Value.int .u8) := by
      rw [hY, List.toList_toArray, List.take_zero, List.nil_append, Nat.zero_add, hlen, hMl, List.drop_replicate]
      unfold pad
      rw [List.map_append, List.map_replicate]
    clear hY
    go_enter Try.func8, Try.ntmps8
    go_wp2
    go_ret
    exact ⟨rfl, Y, hYl, rfl⟩

end Go.X.Y

namespace Go.X.Y
open Go.Proofs Go.RowKit

def T_sz (k n : Nat) : Tmpl := ⟨8, [.one (.lf (.gho k)), .one (.lf (.int .i64 (.l n)))], [], 0, n, true, .one (.lf (.slc 0 0 n (some n))), [], [(List.range n).map fun i => .int .u8 (.v i)]⟩

theorem pad_len {n len : Nat} {zs : List Int} (h : len ≤ zs.length) : (pad n len zs).length = n := by
  unfold pad
  rw [List.length_append, List.length_take, List.length_replicate]; omega

theorem InD_take {b : Int} : ∀ {l : List Int} (n : Nat), InD b l → InD b (l.take n)
  | [], n, _ => by rw [List.take_nil]; trivial
  | _ :: _, 0, _ => trivial
  | _ :: _, n + 1, h => ⟨h.1, h.2.1, InD_take n h.2.2⟩

theorem InD_zeros {b : Int} (hb : 0 < b) : ∀ n : Nat, InD b (List.replicate n 0)
  | 0 => trivial
  | n + 1 => ⟨Int.le_refl _, hb, InD_zeros hb n⟩

theorem pad_in {n len : Nat} {zs : List Int} (h : len ≤ zs.length) (hz : InD 256 zs) : InB (BB n) (pad n len zs) :=
  in_BB (pad_len h) (InD_append (InD_take _ hz) (InD_zeros (by decide) _))

def s_sz (n len : Nat) (zs : List Int) (h : len ≤ zs.length) (hz : InD 256 zs) : X.Sem := X.Sem.of (fun _ => pad n len zs) [] (BB n) (fun _ _ => pad_in h hz)

theorem cell_of {w : World} {g i : Nat} {Y : Array Value} {t : TypeId} (hg : w.heap[g]? = some (.cells Y t (0, 0))) : w.cell? ⟨g, i, none⟩ = Y[i]? := by
  simp [World.cell?, hg]

theorem frozen_of {w : World} {g i : Nat} {Y : Array Value} {t : TypeId} (hg : w.heap[g]? = some (.cells Y t (0, 0))) : w.frozen? ⟨g, i, none⟩ = false := by
  simp [World.frozen?, hg]

set_option maxRecDepth 100000 in
theorem good_sz {W : World0 Try.prog} {k n len cap : Nat} {a : Option Addr} {zs : List Int} (hn : n ≤ 100) (h : len ≤ zs.length) (hz : InD 256 zs) (hgv : W.gv k = .slice a len cap)
    (hI : ∀ w, W.I w → W.base ≤ w.heap.size → Row8 w a len zs ∧ (∀ x, a = some x → len ≠ 0 → x.block < w.heap.size)) (hcap : a = none → cap = 0) : Good W (T_sz k n) (s_sz n len zs h hz) := by
  intro F pr c hF hp E σ w args hpre
  have hargs : args = [.slice a len cap, .int .i64 n] := by
    have ha := hpre.args
    show args = _
    cases ha with
    | cons h1 t1 =>
      cases t1 with
      | cons h2 t2 =>
        cases t2
        have h1 : _ = E.gv k := h1
        have h2 : _ = Value.int .i64 n := h2
        rw [h1, h2, hpre.gv, hgv]
  obtain ⟨r1, r2⟩ := hI w hpre.inv hpre.ble
  show Invokes Try.prog 8 ⟨args⟩ w _
  unfold Invokes
  rw [hargs, Try.call8]
  refine (sized_calls n hn a len cap zs w r1 hcap r2).mono fun e w' ⟨he, Y, hY, hw⟩ => ?_
  refine ⟨_, σ.set 0 (w.heap.size, 0), he, ?_⟩
  have hg : w'.heap[w.heap.size]? = some (.cells Y 5 (0, 0)) := by
    rw [hw]; exact setRow_heap _ _ _ _ 5 (0, 0) (heap_alloc_new w _)
  have hother : ∀ b, b ≠ w.heap.size → w'.heap[b]? = (w.alloc (.cells (madeCells #[.int .u8 0] n) 5)).heap[b]? := by
    intro b hb; rw [hw]; exact setRow_other _ _ _ _ hb
  have hsz : w'.heap.size = w.heap.size + 1 := by rw [hw]; simp
  have hold : ∀ b, b < w.heap.size → w'.heap[b]? = w.heap[b]? := by
    intro b hb
    rw [hother b (by omega)]
    exact (Ev.alloc w (fun _ _ => False) _).block b hb (fun _ h => h)
  have hYl : Y.toList.length = n := by rw [hY, List.length_map, pad_len h]
  have hval : ∀ i, i < n → E.ρ i = (pad n len zs).getD i 0 := by
    intro i hi
    have := hpre.out i hi
    rw [hF] at this
    have e : (T_sz k n).nin + i = i := Nat.zero_add i
    rw [e] at this
    exact this
  refine ⟨fun r hr => absurd hr (Nat.not_lt_zero r), ?_, ?_, ?_, ⟨?_, ?_⟩, ?_⟩
  · intro r hr
    have hr : 1 ≤ r := hr
    have := hpre.free r (Nat.zero_le r)
    show (if r = 0 then _ else σ r) = none
    rw [if_neg (by omega), this]
  · refine ⟨(w.heap.size, 0), n, rfl, Nat.le_refl n, ?_, rfl⟩
    intro c' h; cases h; rfl
  · intro r cs p h1 _
    have h1 : ([] : List (Option (List L)))[r]? = some (some cs) := h1
    simp at h1
  · intro j cs hj
    have hj : [((List.range n).map fun i => L.int .u8 (.v i))][j]? = some cs := hj
    match j, hj with
    | 0, hj =>
      simp at hj
      subst hj
      refine ⟨(w.heap.size, 0), rfl, Nat.le_refl _, by show w.heap.size < w'.heap.size; omega, ?_⟩
      intro i c hc
      have hi : i < n := by
        have := (List.getElem?_eq_some_iff.1 hc).1
        simpa using this
      rw [List.getElem?_map, List.getElem?_range hi] at hc
      cases hc
      have ea : adr (w.heap.size, 0) i = ⟨w.heap.size, i, none⟩ := by unfold adr; rw [Nat.zero_add]
      refine ⟨.int .u8 (E.ρ i), ?_, rfl, ?_⟩
      · rw [ea, cell_of hg, ← Array.getElem?_toList, hY, List.getElem?_map, List.getElem?_eq_getElem (by rw [pad_len h]; exact hi), hval i hi, List.getD_eq_getElem?_getD, List.getElem?_eq_getElem (by rw [pad_len h]; exact hi)]
        rfl
      · rw [ea]; exact frozen_of hg
  · intro i j p q cs cs' h1 h2 hne _ _
    have h1 : [((List.range n).map fun i => L.int .u8 (.v i))][i]? = some cs := h1
    have h2 : [((List.range n).map fun i => L.int .u8 (.v i))][j]? = some cs' := h2
    have := (List.getElem?_eq_some_iff.1 h1).1
    have := (List.getElem?_eq_some_iff.1 h2).1
    simp at *
    omega
  · refine ⟨by rw [hw]; rfl, by rw [hw]; rfl, by rw [hw]; rfl, by omega, fun b hb _ => hold b hb, ?_, ?_⟩
    · intro b o hb _
      unfold World.cell?
      simp only [hold b hb]
    · intro b o hb
      unfold World.frozen?
      simp only [hold b hb]

end Go.X.Y

namespace Go.X
open Go

/-! ### a law: a run whose instructions stand as they are, slices from without and all -/

def rawL (l : List (Nat × Ins)) : List (Nat × CI) := l.map fun p => (p.1, CI.raw p.2)

theorem raw_hold {F : Fns} {ρ : Nat → Int} : ∀ {l : List (Nat × Ins)}, Sat F ρ l → CHold F ρ (rawL l)
  | [], _ => trivial
  | (x, i) :: _, h => ⟨h (x, i) (List.mem_cons_self ..), raw_hold fun y hy => h y (List.mem_cons_of_mem _ hy)⟩

def rawSt (l : List (Nat × Ins)) : List St := (group 1000000 (rawL l)).reverse

def HoldL (pr : Prs) (ρ : Nat → Int) : List Asm → Prop
  | [] => True
  | x :: r => x.holds pr ρ ∧ HoldL pr ρ r

theorem HoldL.hold {pr : Prs} {ρ : Nat → Int} : ∀ {l : List Asm}, HoldL pr ρ l → Hold pr ρ l
  | [], _ => fun x hx => by cases hx
  | y :: r, h => fun x hx => by
    cases hx with
    | head => exact h.1
    | tail _ hx => exact HoldL.hold h.2 x hx

theorem law_sound {P : Program} {W : World0 P} {ts : List Tmpl} {l : List Sem} (hl : GoodL W ts l) (hlen : l.length ≤ 1000000) {T : Tmpl} {s : Sem} {fn : Func}
    (hf : P.funcs[T.f]? = some fn) (hc : ∀ args w, (callFunc T.f args).run P w = .ok (.enter T.f args) w) (hown : ownT T = true) (hpre : T.hasPre = true)
    (hcov : ∀ xs, InB s.bi xs → ∃ fuel orc out ft, runBody P ts [] fn fuel T.args T.mem T.nin orc = some out ∧ (fitsB T out ft && wfS T.nin out.g.ssa out.g.n) = true ∧
      ∀ ρ : Nat → Int, (∀ x, x < T.nin → ρ x = xs.getD x 0) → StHold (tabF W.gl l) ρ (rawSt out.g.ssa) →
        (∀ (j : Nat) (a : A), ft.outs[j]? = some a → (s.f xs).getD j 0 = a.ev ρ) ∧ HoldL (tabP l) ρ out.g.asm) : Good W T s := by
  intro F pr c hF hp
  refine body_sound (ls := []) (F' := tabF W.gl l) (pr' := tabP l) hf hc hown (fun E hE => hl.cx hlen E hE) ?_ ?_ ?_
  · intro l hl; cases hl
  · intro _ _ _ _ l hl; cases hl
  · intro xs _ hx
    have hb : InB s.bi xs := by rw [hp] at hx; exact hx hpre
    obtain ⟨fuel, orc, out, ft, h1, h2, h3⟩ := hcov xs hb
    simp only [Bool.and_eq_true] at h2
    obtain ⟨hsat, hin, _⟩ := evalS_sat (F := tabF W.gl l) (ρ0 := fun x => xs.getD x 0) h2.2
    obtain ⟨k1, k2⟩ := h3 _ hin (StHold_rev (group_hold (raw_hold hsat)))
    refine ⟨fuel, orc, out, ft, h1, h2.1, h2.2, ?_, k2.hold⟩
    rw [hF]; exact k1

end Go.X

set_option maxRecDepth 20000
namespace Go.X.Y
open Go.Proofs
abbrev T_szA : Tmpl := T_sz 0 32
abbrev T_szB : Tmpl := T_sz 1 32
def T_FnRatio : Tmpl := ⟨3, [.one (.lf (.gho 0)), .one (.lf (.gho 1)), .one (.lf (.bool (.v 0)))], [], 1, 1, true, .one (.lf (.bool (.v 1))), [], []⟩
def g_FnRatio_0 : List (Nat × Ins) := [(2, .op2 .gtr .i64 (.v 1) (.l 2147483647)),
  (1, .app 1000000 [] 0)]
def p_FnRatio_0 : Out := ⟨.one (.lf (.bool (.l 1))), [], ⟨g_FnRatio_0, 3, [.cond (.v 2) true], [], []⟩⟩
theorem r_FnRatio_0 : runBody Try.prog [T_NBytes, T_Of32, T_Of64, T_iRatio, T_Field, T_FMul, T_same32, T_Ratio, T_szA, T_szB] [] Try.f3 200 T_FnRatio.args T_FnRatio.mem T_FnRatio.nin [true] = some p_FnRatio_0 := by kernel_rfl
def ft_FnRatio_0 : Fit := ⟨[(.l 1)], []⟩
theorem w_FnRatio_0 : (fitsB T_FnRatio p_FnRatio_0 ft_FnRatio_0 && wfS T_FnRatio.nin p_FnRatio_0.g.ssa p_FnRatio_0.g.n) = true := by kernel_rfl
theorem E_FnRatio_0 {F : Fns} {v : Nat → Int} (h : StHold F v (rawSt p_FnRatio_0.g.ssa)) : (v 1 = (F 1000000 []).getD 0 0) ∧ (v 2 = op2 .gtr .i64 (v 1) 2147483647) := Eq.mp (by kernel_rfl) h
theorem A_FnRatio_0 {pr : Prs} {v : Nat → Int} (h : ((v 2 != 0) = true) ∧ True) : HoldL pr v p_FnRatio_0.g.asm := Eq.mp (by kernel_rfl) h

def g_FnRatio_1 : List (Nat × Ins) := [(4, .op2 .gtr .i64 (.v 3) (.l 2147483647)),
  (3, .app 1000001 [] 0),
  (2, .op2 .gtr .i64 (.v 1) (.l 2147483647)),
  (1, .app 1000000 [] 0)]
def p_FnRatio_1 : Out := ⟨.one (.lf (.bool (.l 1))), [], ⟨g_FnRatio_1, 5, [.cond (.v 4) true, .cond (.v 2) false], [], []⟩⟩
theorem r_FnRatio_1 : runBody Try.prog [T_NBytes, T_Of32, T_Of64, T_iRatio, T_Field, T_FMul, T_same32, T_Ratio, T_szA, T_szB] [] Try.f3 200 T_FnRatio.args T_FnRatio.mem T_FnRatio.nin [false, true] = some p_FnRatio_1 := by kernel_rfl
def ft_FnRatio_1 : Fit := ⟨[(.l 1)], []⟩
theorem w_FnRatio_1 : (fitsB T_FnRatio p_FnRatio_1 ft_FnRatio_1 && wfS T_FnRatio.nin p_FnRatio_1.g.ssa p_FnRatio_1.g.n) = true := by kernel_rfl
theorem E_FnRatio_1 {F : Fns} {v : Nat → Int} (h : StHold F v (rawSt p_FnRatio_1.g.ssa)) : (v 1 = (F 1000000 []).getD 0 0) ∧ (v 2 = op2 .gtr .i64 (v 1) 2147483647) ∧ (v 3 = (F 1000001 []).getD 0 0) ∧ (v 4 = op2 .gtr .i64 (v 3) 2147483647) := Eq.mp (by kernel_rfl) h
theorem A_FnRatio_1 {pr : Prs} {v : Nat → Int} (h : ((v 4 != 0) = true) ∧ ((v 2 != 0) = false) ∧ True) : HoldL pr v p_FnRatio_1.g.asm := Eq.mp (by kernel_rfl) h

def g_FnRatio_2 : List (Nat × Ins) := (List.flatten [[(300, .app 6 ((vs 216 32) ++ (vs 268 32)) 0)], apps 0 (vs 248 16) 268 32, [(267, .ite (.v 215) (.v 265) (.v 266)), (266, .ite (.v 264) (.l 0) (.l 1)), (265, .ite (.v 264) (.l 1) (.l 0))], apps 7 ((vs 135 16) ++ (vs 103 16)) 248 17, apps 3 (vs 151 64) 215 33, apps 0 (vs 103 16) 183 32, apps 0 (vs 135 16) 151 32, apps 5 ((vs 119 16) ++ (vs 103 16)) 135 16, apps 5 ((vs 87 16) ++ (vs 87 16)) 119 16, apps 4 ((vs 77 7) ++ [(.v 86)] ++ (ls 0 8)) 103 16, apps 4 ((vs 37 7) ++ [(.v 85)] ++ (ls 0 8)) 87 16, [(86, .op2 .and .u32 (.v 84) (.l 2147483647)), (85, .op2 .and .u32 (.v 44) (.l 2147483647))], apps 1 (vs 45 32) 77 8, apps 9 [] 45 32, apps 1 (vs 5 32) 37 8, apps 8 [] 5 32, [(4, .op2 .gtr .i64 (.v 3) (.l 2147483647)), (3, .app 1000001 [] 0), (2, .op2 .gtr .i64 (.v 1) (.l 2147483647)), (1, .app 1000000 [] 0)]])
def p_FnRatio_2 : Out := ⟨.one (.lf (.bool (.v 300))), [(us .u8 5 32), (us .u8 45 32), (us .u32 135 16), (us .u32 103 16), (us .u8 151 32), (us .u8 183 32), (us .u8 216 32), (us .u32 248 16), (us .u8 268 32)], ⟨g_FnRatio_2, 301, [.pre 6 ((vs 216 32) ++ (vs 268 32)), .pre 0 (vs 248 16), .cond (.v 267) true, .pre 7 ((vs 135 16) ++ (vs 103 16)), .pre 3 (vs 151 64), .pre 0 (vs 103 16), .pre 0 (vs 135 16), .pre 5 ((vs 119 16) ++ (vs 103 16)), .pre 5 ((vs 87 16) ++ (vs 87 16)), .cond (.v 0) true, .pre 4 ((vs 77 7) ++ [(.v 86)] ++ (ls 0 8)), .pre 4 ((vs 37 7) ++ [(.v 85)] ++ (ls 0 8)), .pre 1 (vs 45 32), .pre 9 [], .pre 1 (vs 5 32), .pre 8 [], .cond (.v 4) false, .cond (.v 2) false], [], [7, 2, 3, 2, 3, 2, 3, 2]⟩⟩
theorem r_FnRatio_2 : runBody Try.prog [T_NBytes, T_Of32, T_Of64, T_iRatio, T_Field, T_FMul, T_same32, T_Ratio, T_szA, T_szB] [] Try.f3 200 T_FnRatio.args T_FnRatio.mem T_FnRatio.nin [false, false, true, true] = some p_FnRatio_2 := by kernel_rfl
def ft_FnRatio_2 : Fit := ⟨[(.v 300)], []⟩
theorem w_FnRatio_2 : (fitsB T_FnRatio p_FnRatio_2 ft_FnRatio_2 && wfS T_FnRatio.nin p_FnRatio_2.g.ssa p_FnRatio_2.g.n) = true := by kernel_rfl
theorem E_FnRatio_2 {F : Fns} {v : Nat → Int} (h : StHold F v (rawSt p_FnRatio_2.g.ssa)) : (v 1 = (F 1000000 []).getD 0 0) ∧ (v 2 = op2 .gtr .i64 (v 1) 2147483647) ∧ (v 3 = (F 1000001 []).getD 0 0) ∧ (v 4 = op2 .gtr .i64 (v 3) 2147483647) ∧ (seg v 5 32 = gets (F 8 ([] : List Int)) 0 32) ∧ (seg v 37 8 = gets (F 1 (seg v 5 32)) 0 8) ∧ (seg v 45 32 = gets (F 9 ([] : List Int)) 0 32) ∧ (seg v 77 8 = gets (F 1 (seg v 45 32)) 0 8) ∧ (v 85 = op2 .and .u32 (v 44) 2147483647) ∧ (v 86 = op2 .and .u32 (v 84) 2147483647) ∧ (seg v 87 16 = gets (F 4 (seg v 37 7 ++ [v 85, 0, 0, 0, 0, 0, 0, 0, 0])) 0 16) ∧ (seg v 103 16 = gets (F 4 (seg v 77 7 ++ [v 86, 0, 0, 0, 0, 0, 0, 0, 0])) 0 16) ∧ (seg v 119 16 = gets (F 5 (seg v 87 16 ++ seg v 87 16)) 0 16) ∧ (seg v 135 16 = gets (F 5 (seg v 119 16 ++ seg v 103 16)) 0 16) ∧ (seg v 151 32 = gets (F 0 (seg v 135 16)) 0 32) ∧ (seg v 183 32 = gets (F 0 (seg v 103 16)) 0 32) ∧ (seg v 215 33 = gets (F 3 (seg v 151 64)) 0 33) ∧ (seg v 248 17 = gets (F 7 (seg v 135 16 ++ seg v 103 16)) 0 17) ∧ (v 265 = (if v 264 ≠ 0 then 1 else 0)) ∧ (v 266 = (if v 264 ≠ 0 then 0 else 1)) ∧ (v 267 = (if v 215 ≠ 0 then v 265 else v 266)) ∧ (seg v 268 32 = gets (F 0 (seg v 248 16)) 0 32) ∧ (v 300 = (F 6 (seg v 216 32 ++ seg v 268 32)).getD 0 0) := Eq.mp (by kernel_rfl) h
theorem A_FnRatio_2 {pr : Prs} {v : Nat → Int} (h : (pr 6 (seg v 216 32 ++ seg v 268 32)) ∧ (pr 0 (seg v 248 16)) ∧ ((v 267 != 0) = true) ∧ (pr 7 (seg v 135 16 ++ seg v 103 16)) ∧ (pr 3 (seg v 151 64)) ∧ (pr 0 (seg v 103 16)) ∧ (pr 0 (seg v 135 16)) ∧ (pr 5 (seg v 119 16 ++ seg v 103 16)) ∧ (pr 5 (seg v 87 16 ++ seg v 87 16)) ∧ ((v 0 != 0) = true) ∧ (pr 4 (seg v 77 7 ++ [v 86, 0, 0, 0, 0, 0, 0, 0, 0])) ∧ (pr 4 (seg v 37 7 ++ [v 85, 0, 0, 0, 0, 0, 0, 0, 0])) ∧ (pr 1 (seg v 45 32)) ∧ (pr 9 ([] : List Int)) ∧ (pr 1 (seg v 5 32)) ∧ (pr 8 ([] : List Int)) ∧ ((v 4 != 0) = false) ∧ ((v 2 != 0) = false) ∧ True) : HoldL pr v p_FnRatio_2.g.asm := Eq.mp (by kernel_rfl) h

def g_FnRatio_3 : List (Nat × Ins) := (List.flatten [[(268, .app 6 ((vs 184 32) ++ (vs 236 32)) 0)], apps 0 (vs 216 16) 236 32, [(235, .ite (.v 183) (.v 233) (.v 234)), (234, .ite (.v 232) (.l 0) (.l 1)), (233, .ite (.v 232) (.l 1) (.l 0))], apps 7 (vs 87 32) 216 17, apps 3 (vs 119 64) 183 33, apps 0 (vs 103 16) 151 32, apps 0 (vs 87 16) 119 32, apps 4 ((vs 77 7) ++ [(.v 86)] ++ (ls 0 8)) 103 16, apps 4 ((vs 37 7) ++ [(.v 85)] ++ (ls 0 8)) 87 16, [(86, .op2 .and .u32 (.v 84) (.l 2147483647)), (85, .op2 .and .u32 (.v 44) (.l 2147483647))], apps 1 (vs 45 32) 77 8, apps 9 [] 45 32, apps 1 (vs 5 32) 37 8, apps 8 [] 5 32, [(4, .op2 .gtr .i64 (.v 3) (.l 2147483647)), (3, .app 1000001 [] 0), (2, .op2 .gtr .i64 (.v 1) (.l 2147483647)), (1, .app 1000000 [] 0)]])
def p_FnRatio_3 : Out := ⟨.one (.lf (.bool (.v 268))), [(us .u8 5 32), (us .u8 45 32), (us .u32 87 16), (us .u32 103 16), (us .u8 119 32), (us .u8 151 32), (us .u8 184 32), (us .u32 216 16), (us .u8 236 32)], ⟨g_FnRatio_3, 269, [.pre 6 ((vs 184 32) ++ (vs 236 32)), .pre 0 (vs 216 16), .cond (.v 235) true, .pre 7 (vs 87 32), .pre 3 (vs 119 64), .pre 0 (vs 103 16), .pre 0 (vs 87 16), .cond (.v 0) false, .pre 4 ((vs 77 7) ++ [(.v 86)] ++ (ls 0 8)), .pre 4 ((vs 37 7) ++ [(.v 85)] ++ (ls 0 8)), .pre 1 (vs 45 32), .pre 9 [], .pre 1 (vs 5 32), .pre 8 [], .cond (.v 4) false, .cond (.v 2) false], [], [7, 3, 2, 3, 2, 3, 2]⟩⟩
theorem r_FnRatio_3 : runBody Try.prog [T_NBytes, T_Of32, T_Of64, T_iRatio, T_Field, T_FMul, T_same32, T_Ratio, T_szA, T_szB] [] Try.f3 200 T_FnRatio.args T_FnRatio.mem T_FnRatio.nin [false, false, false, true] = some p_FnRatio_3 := by kernel_rfl
def ft_FnRatio_3 : Fit := ⟨[(.v 268)], []⟩
theorem w_FnRatio_3 : (fitsB T_FnRatio p_FnRatio_3 ft_FnRatio_3 && wfS T_FnRatio.nin p_FnRatio_3.g.ssa p_FnRatio_3.g.n) = true := by kernel_rfl
theorem E_FnRatio_3 {F : Fns} {v : Nat → Int} (h : StHold F v (rawSt p_FnRatio_3.g.ssa)) : (v 1 = (F 1000000 []).getD 0 0) ∧ (v 2 = op2 .gtr .i64 (v 1) 2147483647) ∧ (v 3 = (F 1000001 []).getD 0 0) ∧ (v 4 = op2 .gtr .i64 (v 3) 2147483647) ∧ (seg v 5 32 = gets (F 8 ([] : List Int)) 0 32) ∧ (seg v 37 8 = gets (F 1 (seg v 5 32)) 0 8) ∧ (seg v 45 32 = gets (F 9 ([] : List Int)) 0 32) ∧ (seg v 77 8 = gets (F 1 (seg v 45 32)) 0 8) ∧ (v 85 = op2 .and .u32 (v 44) 2147483647) ∧ (v 86 = op2 .and .u32 (v 84) 2147483647) ∧ (seg v 87 16 = gets (F 4 (seg v 37 7 ++ [v 85, 0, 0, 0, 0, 0, 0, 0, 0])) 0 16) ∧ (seg v 103 16 = gets (F 4 (seg v 77 7 ++ [v 86, 0, 0, 0, 0, 0, 0, 0, 0])) 0 16) ∧ (seg v 119 32 = gets (F 0 (seg v 87 16)) 0 32) ∧ (seg v 151 32 = gets (F 0 (seg v 103 16)) 0 32) ∧ (seg v 183 33 = gets (F 3 (seg v 119 64)) 0 33) ∧ (seg v 216 17 = gets (F 7 (seg v 87 32)) 0 17) ∧ (v 233 = (if v 232 ≠ 0 then 1 else 0)) ∧ (v 234 = (if v 232 ≠ 0 then 0 else 1)) ∧ (v 235 = (if v 183 ≠ 0 then v 233 else v 234)) ∧ (seg v 236 32 = gets (F 0 (seg v 216 16)) 0 32) ∧ (v 268 = (F 6 (seg v 184 32 ++ seg v 236 32)).getD 0 0) := Eq.mp (by kernel_rfl) h
theorem A_FnRatio_3 {pr : Prs} {v : Nat → Int} (h : (pr 6 (seg v 184 32 ++ seg v 236 32)) ∧ (pr 0 (seg v 216 16)) ∧ ((v 235 != 0) = true) ∧ (pr 7 (seg v 87 32)) ∧ (pr 3 (seg v 119 64)) ∧ (pr 0 (seg v 103 16)) ∧ (pr 0 (seg v 87 16)) ∧ ((v 0 != 0) = false) ∧ (pr 4 (seg v 77 7 ++ [v 86, 0, 0, 0, 0, 0, 0, 0, 0])) ∧ (pr 4 (seg v 37 7 ++ [v 85, 0, 0, 0, 0, 0, 0, 0, 0])) ∧ (pr 1 (seg v 45 32)) ∧ (pr 9 ([] : List Int)) ∧ (pr 1 (seg v 5 32)) ∧ (pr 8 ([] : List Int)) ∧ ((v 4 != 0) = false) ∧ ((v 2 != 0) = false) ∧ True) : HoldL pr v p_FnRatio_3.g.asm := Eq.mp (by kernel_rfl) h

end Go.X.Y

namespace Go.X

/-! ### pieces for the laws -/

theorem mask31 {x : Int} (h : 0 ≤ x) (h' : x < 4294967296) : op2 .and .u32 x 2147483647 = x % 2147483648 := by
  obtain ⟨n, rfl⟩ := Int.eq_ofNat_of_zero_le h
  have hn : n < 2 ^ 32 := by omega
  have e1 := (bits_nat .u32 32 (by decide) (fun n a b => wrap_w (k := .u32) n a b) n 2147483647 hn (by decide)).1
  show bits .and .u32 (n : Int) ((2147483647 : Nat) : Int) = _
  rw [e1, show 2147483647 = 2 ^ 31 - 1 from rfl, Nat.and_two_pow_sub_one_eq_mod]
  omega

theorem gtr_b (a b : Int) : op2 .gtr .i64 a b = b2i (decide (a > b)) := rfl

theorem val_bytes (x : Fp) : φ (v51 (toD 2251799813685248 5 (ofD 256 (toD 256 32 (x.val : Int))))) = x := by
  obtain ⟨h0, h1⟩ := val_lt x
  have e : ofD 256 (toD 256 32 (x.val : Int)) = x.val := by
    rw [ofD_toD (by decide)]
    exact Int.emod_eq_of_lt h0 (by omega)
  rw [e, el_val, Int.emod_eq_of_lt h0 (by omega), φ_of]

theorem bytes_in (n : Int) : InB (BB 32) (toD 256 32 n) := in_BB (toD_len _ _ _) (toD_in (by decide) _ _)

theorem iRatio_F (x y : Fp) : s_iRatio.f (toD 256 32 (x.val : Int) ++ toD 256 32 (y.val : Int)) = (if okF x y then 1 else 0) :: toD 256 32 ((sqF x y).val : Int) := by
  rw [iRatio_val (bytes_in _) (bytes_in _), val_bytes, val_bytes]

/-- the words of 32 bytes -/
theorem of32_in {l : List Int} (h : InB (BB 32) l) : InB (WB 8) (s_Of32.f l) := by
  rw [Of32_val l h]
  exact InD_InB (b := 4294967296) (toD_len _ _ _) (toD_in (by decide) _ _)

theorem masked_in {v : Nat → Int} {x : Nat} {m : Int} (h : InB (WB 8) (seg v x 8)) (hm : m = op2 .and .u32 (v (x + 7)) 2147483647) : InB (WB 16) (seg v x 7 ++ [m, 0, 0, 0, 0, 0, 0, 0, 0]) := by
  have hd : InD 4294967296 (seg v x 8) := InB_InD (b := 4294967296) (n := 8) h
  have e : seg v x 8 = seg v x 7 ++ [v (x + 7)] := seg_add v 7 1 x
  rw [e] at hd
  have h7 := InD_left hd
  have hr := InD_right hd
  have h0 := hr.1
  have h1 := hr.2.1
  refine InD_InB (b := 4294967296) ?_ (InD_append h7 ⟨?_, ?_, by decide, by decide, by decide, by decide, by decide, by decide, by decide, by decide, by decide, by decide, by decide, by decide, by decide, by decide, by decide, by decide, trivial⟩)
  · rw [List.length_append, seg_len]; rfl
  · rw [hm, mask31 h0 h1]; omega
  · rw [hm, mask31 h0 h1]; omega

end Go.X

set_option maxRecDepth 20000
namespace Go.X.Y
open Go.Proofs

section
variable (a0 : Option Addr) (len0 cap0 : Nat) (a1 : Option Addr) (len1 cap1 : Nat) (w : World)

def gv2 : Nat → Value
  | 0 => .slice a0 len0 cap0
  | 1 => .slice a1 len1 cap1
  | _ => .slice none 0 0

def gl2 : Nat → Nat
  | 0 => len0
  | 1 => len1
  | _ => 0

theorem mixed : Try.prog.follows .mixedOrders = true := by kernel_rfl

/-- the world that the law finds -/
def W2 : World0 Try.prog where
  gv := gv2 a0 len0 cap0 a1 len1 cap1
  gl := gl2 len0 len1
  I := fun w' => ∀ b, b < w.heap.size → w'.heap[b]? = w.heap[b]?
  base := w.heap.size
  hg := fun k => by
    match k with
    | 0 => exact ⟨a0, cap0, rfl⟩
    | 1 => exact ⟨a1, cap1, rfl⟩
    | _ + 2 => exact ⟨none, 0, rfl⟩
  st := fun w1 w2 h _ _ h2 b hb => (h2 b hb).trans (h b hb)
  mix := mixed

end

/-- what is said of a slice that came in -/
structure SOk (w : World) (a : Option Addr) (len cap : Nat) (zs : List Int) : Prop where
  row : Row8 w a len zs
  nil : a = none → cap = 0
  lt : ∀ x, a = some x → len ≠ 0 → x.block < w.heap.size
  len : len ≤ zs.length
  bytes : InD 256 zs

theorem cell_same {w w' : World} (h : ∀ b, b < w.heap.size → w'.heap[b]? = w.heap[b]?) {x : Addr} (hx : x.block < w.heap.size) : w'.cell? x = w.cell? x := by
  have := h x.block hx
  unfold World.cell?
  simp only [this]

theorem SOk.keep {w w' : World} {a : Option Addr} {len cap : Nat} {zs : List Int} (h : SOk w a len cap zs) (hI : ∀ b, b < w.heap.size → w'.heap[b]? = w.heap[b]?) (hs : w.heap.size ≤ w'.heap.size) :
    Row8 w' a len zs ∧ (∀ x, a = some x → len ≠ 0 → x.block < w'.heap.size) := by
  refine ⟨?_, fun x hx hl => Nat.lt_of_lt_of_le (h.lt x hx hl) hs⟩
  rcases h.row with ⟨e1, e2⟩ | ⟨x, e, h1, h2⟩
  · exact .inl ⟨e1, e2⟩
  · refine .inr ⟨x, e, h1, ?_⟩
    intro i hi
    have hc := h2 i hi
    rw [← hc]
    have hb : (x.add i).block < w.heap.size := by
      unfold World.cell? at hc
      cases hh : w.heap[(x.add i).block]? with
      | none => rw [hh] at hc; simp at hc
      | some o => exact (Array.getElem?_eq_some_iff.1 hh).1
    exact cell_same hI hb

section
variable {a0 : Option Addr} {len0 cap0 : Nat} {z0 : List Int} {a1 : Option Addr} {len1 cap1 : Nat} {z1 : List Int} {w : World}
  (h0 : SOk w a0 len0 cap0 z0) (h1 : SOk w a1 len1 cap1 z1)

def sA : X.Sem := s_sz 32 len0 z0 h0.len h0.bytes
def sB : X.Sem := s_sz 32 len1 z1 h1.len h1.bytes

theorem good_szA : Good (W2 a0 len0 cap0 a1 len1 cap1 w) T_szA (sA h0) :=
  good_sz (k := 0) (a := a0) (by decide) h0.len h0.bytes rfl (fun _ hI hs => h0.keep hI hs) h0.nil
theorem good_szB : Good (W2 a0 len0 cap0 a1 len1 cap1 w) T_szB (sB h1) :=
  good_sz (k := 1) (a := a1) (by decide) h1.len h1.bytes rfl (fun _ hI hs => h1.keep hI hs) h1.nil

abbrev lR : List X.Sem := [s_NBytes, s_Of32, s_Of64, s_iRatio, s_Field, s_FMul, s_same32, s_Ratio, sA h0, sB h1]

def s_FnRatio : X.Sem := X.Sem.of (fun _ => [1]) [(0, 1)] [(1, 1)] (fun _ _ => ⟨by decide, by decide, trivial⟩)

theorem ok01 {P : Prop} [Decidable P] {a b c d e : Int} (ha : a = if P then 1 else 0) (hb : b = if P then 1 else 0) (hc : c = if a ≠ 0 then 1 else 0) (hd : d = if a ≠ 0 then 0 else 1) (he : e = if b ≠ 0 then c else d) : (e != 0) = true := by
  by_cases h : P
  · rw [if_pos h] at ha hb
    subst ha hb hc hd he; rfl
  · rw [if_neg h] at ha hb
    subst ha hb hc hd he; rfl

theorem cons33 {v : Nat → Int} {x : Nat} {t : Int} {l : List Int} (h : seg v x 33 = t :: l) : v x = t ∧ seg v (x + 1) 32 = l := List.cons.inj h

theorem app17 {v : Nat → Int} {x : Nat} {l : List Int} {t : Int} (h : seg v x 17 = l ++ [t]) (hl : l.length = 16) : seg v x 16 = l ∧ v (x + 16) = t := by
  have e : seg v x 17 = seg v x 16 ++ [v (x + 16)] := seg_add v 16 1 x
  rw [e] at h
  obtain ⟨h1, h2⟩ := List.append_inj h (by rw [seg_len, hl])
  exact ⟨h1, (List.cons.inj h2).1⟩

theorem one_out {v : Int} (h : v = 1) (j : Nat) (a : A) (ha : [A.l v][j]? = some a) {ρ : Nat → Int} : ([1] : List Int).getD j 0 = a.ev ρ := by
  match j, ha with
  | 0, ha => cases ha; exact h.symm

theorem one_outv {x : Nat} {ρ : Nat → Int} (h : ρ x = 1) (j : Nat) (a : A) (ha : [A.v x][j]? = some a) : ([1] : List Int).getD j 0 = a.ev ρ := by
  match j, ha with
  | 0, ha => cases ha; exact h.symm

include h0 h1 in
theorem good_FnRatio : Good (W2 a0 len0 cap0 a1 len1 cap1 w) T_FnRatio s_FnRatio := by
  refine law_sound (ts := [T_NBytes, T_Of32, T_Of64, T_iRatio, T_Field, T_FMul, T_same32, T_Ratio, T_szA, T_szB]) (l := lR h0 h1) (W := W2 a0 len0 cap0 a1 len1 cap1 w) ⟨good_NBytes _, good_Of32 _, good_Of64 _, good_iRatio _, good_Field _, good_FMul _, good_same32 _, good_Ratio _, good_szA h0, good_szB h1, trivial⟩ (show 10 ≤ 1000000 by decide) Try.func3 Try.call3 (by kernel_rfl) rfl ?_
  intro xs hx
  by_cases g0 : (len0 : Int) > 2147483647
  · refine ⟨_, _, _, _, r_FnRatio_0, w_FnRatio_0, ?_⟩
    intro ρ _ hst
    obtain ⟨h1, h2⟩ := E_FnRatio_0 hst
    have h1 : ρ 1 = (len0 : Int) := h1
    rw [h1, gtr_b, decide_eq_true g0] at h2
    exact ⟨fun j a ha => one_out rfl j a ha, A_FnRatio_0 ⟨by rw [h2]; rfl, trivial⟩⟩
  by_cases g1 : (len1 : Int) > 2147483647
  · refine ⟨_, _, _, _, r_FnRatio_1, w_FnRatio_1, ?_⟩
    intro ρ _ hst
    obtain ⟨h1, h2, h3, h4⟩ := E_FnRatio_1 hst
    have h1 : ρ 1 = (len0 : Int) := h1
    have h3 : ρ 3 = (len1 : Int) := h3
    rw [h1, gtr_b, decide_eq_false g0] at h2
    rw [h3, gtr_b, decide_eq_true g1] at h4
    exact ⟨fun j a ha => one_out rfl j a ha, A_FnRatio_1 ⟨by rw [h4]; rfl, by rw [h2]; rfl, trivial⟩⟩
  have bA : InB (BB 32) (pad 32 len0 z0) := pad_in h0.len h0.bytes
  have bB : InB (BB 32) (pad 32 len1 z1) := pad_in h1.len h1.bytes
  by_cases hsq : xs.getD 0 0 = 0
  · refine ⟨_, _, _, _, r_FnRatio_3, w_FnRatio_3, ?_⟩
    intro ρ hin hst
    have hρ0 : ρ 0 = 0 := by rw [hin 0 (by decide), hsq]
    obtain ⟨e1, e2, e3, e4, e5, e37, e45, e77, e85, e86, e87, e103, e119, e151, e183, e216, e233, e234, e235, e236, e268⟩ := E_FnRatio_3 hst
    clear hst
    have e1 : ρ 1 = (len0 : Int) := e1
    have e3 : ρ 3 = (len1 : Int) := e3
    rw [e1, gtr_b, decide_eq_false g0] at e2
    rw [e3, gtr_b, decide_eq_false g1] at e4
    have e5 : seg ρ 5 32 = gets (pad 32 len0 z0) 0 32 := e5
    rw [gets_all (show _ = 32 from bA.len)] at e5
    have e45 : seg ρ 45 32 = gets (pad 32 len1 z1) 0 32 := e45
    rw [gets_all (show _ = 32 from bB.len)] at e45
    have e37 : seg ρ 37 8 = gets (s_Of32.f (seg ρ 5 32)) 0 8 := e37
    have e77 : seg ρ 77 8 = gets (s_Of32.f (seg ρ 45 32)) 0 8 := e77
    rw [e5, gets_all (show _ = 8 from (of32_in bA).len)] at e37
    rw [e45, gets_all (show _ = 8 from (of32_in bB).len)] at e77
    have m0 := masked_in (v := ρ) (x := 37) (by rw [e37]; exact of32_in bA) e85
    have m1 := masked_in (v := ρ) (x := 77) (by rw [e77]; exact of32_in bB) e86
    have e87 : seg ρ 87 16 = gets (s_Field.f (seg ρ 37 7 ++ [ρ 85, 0, 0, 0, 0, 0, 0, 0, 0])) 0 16 := e87
    have e103 : seg ρ 103 16 = gets (s_Field.f (seg ρ 77 7 ++ [ρ 86, 0, 0, 0, 0, 0, 0, 0, 0])) 0 16 := e103
    rw [Field_val _ m0, gets_all (nF_len _)] at e87
    rw [Field_val _ m1, gets_all (nF_len _)] at e103
    obtain ⟨X, hX⟩ : ∃ X, φ (ofD 4294967296 (seg ρ 37 7 ++ [ρ 85, 0, 0, 0, 0, 0, 0, 0, 0])) = X := ⟨_, rfl⟩
    obtain ⟨Y, hY⟩ : ∃ Y, φ (ofD 4294967296 (seg ρ 77 7 ++ [ρ 86, 0, 0, 0, 0, 0, 0, 0, 0])) = Y := ⟨_, rfl⟩
    rw [hX] at e87
    rw [hY] at e103
    have e119 : seg ρ 119 32 = gets (s_NBytes.f (seg ρ 87 16)) 0 32 := e119
    rw [e87, NBytes_nF, gets_all (toD_len _ _ _)] at e119
    have e151 : seg ρ 151 32 = gets (s_NBytes.f (seg ρ 103 16)) 0 32 := e151
    rw [e103, NBytes_nF, gets_all (toD_len _ _ _)] at e151
    have c119 : seg ρ 119 64 = toD 256 32 (X.val : Int) ++ toD 256 32 (Y.val : Int) := by rw [← e119, ← e151]; exact seg_add ρ 32 32 119
    have e183 : seg ρ 183 33 = gets (s_iRatio.f (seg ρ 119 64)) 0 33 := e183
    rw [c119, iRatio_F, gets_all (by rw [List.length_cons, toD_len])] at e183
    obtain ⟨f183, f184⟩ := cons33 e183
    have c87 : seg ρ 87 32 = nF X ++ nF Y := by rw [← e87, ← e103]; exact seg_add ρ 16 16 87
    have e216 : seg ρ 216 17 = gets (f_Ratio (seg ρ 87 32)) 0 17 := e216
    rw [c87, Ratio_val, gets_all (by rw [List.length_append, nF_len]; rfl)] at e216
    obtain ⟨f216, f232⟩ := app17 e216 (nF_len _)
    have e236 : seg ρ 236 32 = gets (s_NBytes.f (seg ρ 216 16)) 0 32 := e236
    rw [f216, NBytes_nF, gets_all (toD_len _ _ _)] at e236
    have e268 : ρ 268 = (s_same32.f (seg ρ 184 32 ++ seg ρ 236 32)).getD 0 0 := e268
    have f184 : seg ρ 184 32 = toD 256 32 ((sqF X Y).val : Int) := f184
    rw [f184, e236, same32_val (bytes_in _) (bytes_in _), if_pos rfl] at e268
    have e268 : ρ 268 = 1 := e268
    have c235 := ok01 f232 f183 e233 e234 e235
    refine ⟨one_outv e268, A_FnRatio_3 ⟨?_, ?_, c235, ?_, ?_, ?_, ?_, by rw [hρ0]; rfl, m1, m0, ?_, trivial, ?_, trivial, by rw [e4]; rfl, by rw [e2]; rfl, trivial⟩⟩
    · rw [f184, e236]; exact InB.append (bytes_in _) (bytes_in _)
    · rw [f216]; exact nF_in _
    · rw [c87]; exact nF_in2 _ _
    · rw [c119]; exact InB.append (bytes_in _) (bytes_in _)
    · rw [e103]; exact nF_in _
    · rw [e87]; exact nF_in _
    · rw [e45]; exact bB
    · rw [e5]; exact bA
  · refine ⟨_, _, _, _, r_FnRatio_2, w_FnRatio_2, ?_⟩
    intro ρ hin hst
    have hρ0 : ρ 0 ≠ 0 := by rw [hin 0 (by decide)]; exact hsq
    obtain ⟨e1, e2, e3, e4, e5, e37, e45, e77, e85, e86, e87, e103, e119, e135, e151, e183, e215, e248, e265, e266, e267, e268, e300⟩ := E_FnRatio_2 hst
    clear hst
    have e1 : ρ 1 = (len0 : Int) := e1
    have e3 : ρ 3 = (len1 : Int) := e3
    rw [e1, gtr_b, decide_eq_false g0] at e2
    rw [e3, gtr_b, decide_eq_false g1] at e4
    have e5 : seg ρ 5 32 = gets (pad 32 len0 z0) 0 32 := e5
    rw [gets_all (show _ = 32 from bA.len)] at e5
    have e45 : seg ρ 45 32 = gets (pad 32 len1 z1) 0 32 := e45
    rw [gets_all (show _ = 32 from bB.len)] at e45
    have e37 : seg ρ 37 8 = gets (s_Of32.f (seg ρ 5 32)) 0 8 := e37
    have e77 : seg ρ 77 8 = gets (s_Of32.f (seg ρ 45 32)) 0 8 := e77
    rw [e5, gets_all (show _ = 8 from (of32_in bA).len)] at e37
    rw [e45, gets_all (show _ = 8 from (of32_in bB).len)] at e77
    have m0 := masked_in (v := ρ) (x := 37) (by rw [e37]; exact of32_in bA) e85
    have m1 := masked_in (v := ρ) (x := 77) (by rw [e77]; exact of32_in bB) e86
    have e87 : seg ρ 87 16 = gets (s_Field.f (seg ρ 37 7 ++ [ρ 85, 0, 0, 0, 0, 0, 0, 0, 0])) 0 16 := e87
    have e103 : seg ρ 103 16 = gets (s_Field.f (seg ρ 77 7 ++ [ρ 86, 0, 0, 0, 0, 0, 0, 0, 0])) 0 16 := e103
    rw [Field_val _ m0, gets_all (nF_len _)] at e87
    rw [Field_val _ m1, gets_all (nF_len _)] at e103
    obtain ⟨X, hX⟩ : ∃ X, φ (ofD 4294967296 (seg ρ 37 7 ++ [ρ 85, 0, 0, 0, 0, 0, 0, 0, 0])) = X := ⟨_, rfl⟩
    obtain ⟨Y, hY⟩ : ∃ Y, φ (ofD 4294967296 (seg ρ 77 7 ++ [ρ 86, 0, 0, 0, 0, 0, 0, 0, 0])) = Y := ⟨_, rfl⟩
    rw [hX] at e87
    rw [hY] at e103
    have e119 : seg ρ 119 16 = gets (s_FMul.f (seg ρ 87 16 ++ seg ρ 87 16)) 0 16 := e119
    rw [e87, FMul_val, gets_all (nF_len _)] at e119
    have e135 : seg ρ 135 16 = gets (s_FMul.f (seg ρ 119 16 ++ seg ρ 103 16)) 0 16 := e135
    rw [e119, e103, FMul_val, gets_all (nF_len _)] at e135
    have e151 : seg ρ 151 32 = gets (s_NBytes.f (seg ρ 135 16)) 0 32 := e151
    rw [e135, NBytes_nF, gets_all (toD_len _ _ _)] at e151
    have e183 : seg ρ 183 32 = gets (s_NBytes.f (seg ρ 103 16)) 0 32 := e183
    rw [e103, NBytes_nF, gets_all (toD_len _ _ _)] at e183
    have c151 : seg ρ 151 64 = toD 256 32 ((X * X * Y).val : Int) ++ toD 256 32 (Y.val : Int) := by rw [← e151, ← e183]; exact seg_add ρ 32 32 151
    have e215 : seg ρ 215 33 = gets (s_iRatio.f (seg ρ 151 64)) 0 33 := e215
    rw [c151, iRatio_F, gets_all (by rw [List.length_cons, toD_len])] at e215
    obtain ⟨f215, f216⟩ := cons33 e215
    have e248 : seg ρ 248 17 = gets (f_Ratio (seg ρ 135 16 ++ seg ρ 103 16)) 0 17 := e248
    rw [e135, e103, Ratio_val, gets_all (by rw [List.length_append, nF_len]; rfl)] at e248
    obtain ⟨f248, f264⟩ := app17 e248 (nF_len _)
    have e268 : seg ρ 268 32 = gets (s_NBytes.f (seg ρ 248 16)) 0 32 := e268
    rw [f248, NBytes_nF, gets_all (toD_len _ _ _)] at e268
    have e300 : ρ 300 = (s_same32.f (seg ρ 216 32 ++ seg ρ 268 32)).getD 0 0 := e300
    have f216 : seg ρ 216 32 = toD 256 32 ((sqF (X * X * Y) Y).val : Int) := f216
    rw [f216, e268, same32_val (bytes_in _) (bytes_in _), if_pos rfl] at e300
    have e300 : ρ 300 = 1 := e300
    have c267 := ok01 f264 f215 e265 e266 e267
    refine ⟨one_outv e300, A_FnRatio_2 ⟨?_, ?_, c267, ?_, ?_, ?_, ?_, ?_, ?_, ne_t hρ0, m1, m0, ?_, trivial, ?_, trivial, by rw [e4]; rfl, by rw [e2]; rfl, trivial⟩⟩
    · rw [f216, e268]; exact InB.append (bytes_in _) (bytes_in _)
    · rw [f248]; exact nF_in _
    · rw [e135, e103]; exact nF_in2 _ _
    · rw [c151]; exact InB.append (bytes_in _) (bytes_in _)
    · rw [e103]; exact nF_in _
    · rw [e135]; exact nF_in _
    · rw [e119, e103]; exact nF_in2 _ _
    · rw [e87]; exact nF_in2 _ _
    · rw [e45]; exact bB
    · rw [e5]; exact bA

end
end Go.X.Y

namespace Go.X
set_option maxRecDepth 20000
noncomputable section
abbrev l_sz64r : List Sem := []
def g_sz64r : List (Nat × Ins) := []
def outs_sz64r : List A := []
def s_sz64r : Sem := Sem.st l_sz64r g_sz64r 64 64 outs_sz64r (bs 64 0 255) [] (by kernel_rfl)

theorem E_sz64r (xs : List Int) (hx : InB (bs 64 0 255) xs) : ∃ v : Nat → Int, vals l_sz64r g_sz64r xs = v ∧ seg v 0 64 = xs ∧ (True) ∧ (True) ∧ s_sz64r.f xs = ([] : List Int) := by
  have h := run_eqs (l := l_sz64r) (g := g_sz64r) (nin := 64) (top := 64) (b := (bs 64 0 255)) (by kernel_rfl) hx
  have hf : s_sz64r.f xs = outs_sz64r.map (A.ev (vals l_sz64r g_sz64r xs)) := by kernel_rfl
  obtain ⟨v, hv⟩ : ∃ v, vals l_sz64r g_sz64r xs = v := ⟨_, rfl⟩
  rw [hv] at h hf
  exact ⟨v, hv, h.1, Eq.mp (by kernel_rfl) h.2.1, trivial, hf.trans (by kernel_rfl)⟩

abbrev l_newEl : List Sem := []
def g_newEl : List (Nat × Ins) := []
def outs_newEl : List A := []
def s_newEl : Sem := Sem.st l_newEl g_newEl 0 0 outs_newEl [] [] (by kernel_rfl)

theorem E_newEl (xs : List Int) (hx : InB [] xs) : ∃ v : Nat → Int, vals l_newEl g_newEl xs = v ∧ seg v 0 0 = xs ∧ (True) ∧ (True) ∧ s_newEl.f xs = ([] : List Int) := by
  have h := run_eqs (l := l_newEl) (g := g_newEl) (nin := 0) (top := 0) (b := []) (by kernel_rfl) hx
  have hf : s_newEl.f xs = outs_newEl.map (A.ev (vals l_newEl g_newEl xs)) := by kernel_rfl
  obtain ⟨v, hv⟩ : ∃ v, vals l_newEl g_newEl xs = v := ⟨_, rfl⟩
  rw [hv] at h hf
  exact ⟨v, hv, h.1, Eq.mp (by kernel_rfl) h.2.1, trivial, hf.trans (by kernel_rfl)⟩

abbrev l_ElSums : List Sem := [s_feMulG, s_feMulG, s_feMulG, s_feSqG, s_feSqG, s_Add, s_Add, s_Sub, s_Sub, s_Neg, s_Bytes, s_IsNeg, s_Abs, s_Invert, s_Invert, s_Mult32, s_SetWide, s_element, s_Equal, s_newEl]
def g_ElSums : List (Nat × Ins) := (List.flatten [[(507, .op2 .eql .i64 (.v 506) (.l 1)), (506, .app 18 (vs 129 10) 0), (505, .op2 .eql .i64 (.v 504) (.l 1)), (504, .app 11 (vs 129 5) 0)], apps 10 (vs 467 5) 472 32, apps 12 (vs 129 5) 467 5, apps 10 (vs 139 5) 435 32, apps 10 (vs 398 5) 403 32, apps 15 ((vs 129 5) ++ [(.v 128)]) 398 5, apps 10 (vs 361 5) 366 32, apps 13 (vs 129 5) 361 5, apps 10 (vs 324 5) 329 32, apps 3 (vs 129 5) 324 5, apps 10 (vs 287 5) 292 32, apps 0 (vs 129 10) 287 5, apps 10 (vs 250 5) 255 32, apps 9 (vs 129 5) 250 5, apps 10 (vs 213 5) 218 32, apps 7 (vs 129 10) 213 5, apps 10 (vs 176 5) 181 32, apps 5 (vs 129 10) 176 5, apps 10 (vs 129 5) 144 32, apps 16 (vs 64 64) 139 5, apps 17 (vs 32 32) 134 5, apps 17 (vs 0 32) 129 5])
def outs_ElSums : List A := (List.flatten [[(.v 505), (.v 507)], vs 144 32, vs 181 32, vs 218 32, vs 255 32, vs 292 32, vs 329 32, vs 366 32, vs 403 64, vs 472 32])
def s_ElSums : Sem := Sem.st l_ElSums g_ElSums 129 508 outs_ElSums ((bs 128 0 255) ++ [(0, 4294967295)]) ([(0, 1), (0, 1)] ++ (bs 320 0 255)) (by kernel_rfl)

theorem E_ElSums (xs : List Int) (hx : InB ((bs 128 0 255) ++ [(0, 4294967295)]) xs) : ∃ v : Nat → Int, vals l_ElSums g_ElSums xs = v ∧ seg v 0 129 = xs ∧ ((seg v 129 5 = gets (s_element.f (seg v 0 32)) 0 5) ∧ (seg v 134 5 = gets (s_element.f (seg v 32 32)) 0 5) ∧ (seg v 139 5 = gets (s_SetWide.f (seg v 64 64)) 0 5) ∧ (seg v 144 32 = gets (s_Bytes.f (seg v 129 5)) 0 32) ∧ (seg v 176 5 = gets (s_Add.f (seg v 129 10)) 0 5) ∧ (seg v 181 32 = gets (s_Bytes.f (seg v 176 5)) 0 32) ∧ (seg v 213 5 = gets (s_Sub.f (seg v 129 10)) 0 5) ∧ (seg v 218 32 = gets (s_Bytes.f (seg v 213 5)) 0 32) ∧ (seg v 250 5 = gets (s_Neg.f (seg v 129 5)) 0 5) ∧ (seg v 255 32 = gets (s_Bytes.f (seg v 250 5)) 0 32) ∧ (seg v 287 5 = gets (s_feMulG.f (seg v 129 10)) 0 5) ∧ (seg v 292 32 = gets (s_Bytes.f (seg v 287 5)) 0 32) ∧ (seg v 324 5 = gets (s_feSqG.f (seg v 129 5)) 0 5) ∧ (seg v 329 32 = gets (s_Bytes.f (seg v 324 5)) 0 32) ∧ (seg v 361 5 = gets (s_Invert.f (seg v 129 5)) 0 5) ∧ (seg v 366 32 = gets (s_Bytes.f (seg v 361 5)) 0 32) ∧ (seg v 398 5 = gets (s_Mult32.f (seg v 129 5 ++ [v 128])) 0 5) ∧ (seg v 403 32 = gets (s_Bytes.f (seg v 398 5)) 0 32) ∧ (seg v 435 32 = gets (s_Bytes.f (seg v 139 5)) 0 32) ∧ (seg v 467 5 = gets (s_Abs.f (seg v 129 5)) 0 5) ∧ (seg v 472 32 = gets (s_Bytes.f (seg v 467 5)) 0 32) ∧ (v 504 = (s_IsNeg.f (seg v 129 5)).getD 0 0) ∧ (v 505 = op2 .eql .i64 (v 504) 1) ∧ (v 506 = (s_Equal.f (seg v 129 10)).getD 0 0) ∧ (v 507 = op2 .eql .i64 (v 506) 1)) ∧ (True) ∧ s_ElSums.f xs = ([v 505, v 507] ++ seg v 144 32 ++ seg v 181 32 ++ seg v 218 32 ++ seg v 255 32 ++ seg v 292 32 ++ seg v 329 32 ++ seg v 366 32 ++ seg v 403 64 ++ seg v 472 32) := by
  have h := run_eqs (l := l_ElSums) (g := g_ElSums) (nin := 129) (top := 508) (b := ((bs 128 0 255) ++ [(0, 4294967295)])) (by kernel_rfl) hx
  have hf : s_ElSums.f xs = outs_ElSums.map (A.ev (vals l_ElSums g_ElSums xs)) := by kernel_rfl
  obtain ⟨v, hv⟩ : ∃ v, vals l_ElSums g_ElSums xs = v := ⟨_, rfl⟩
  rw [hv] at h hf
  exact ⟨v, hv, h.1, Eq.mp (by kernel_rfl) h.2.1, trivial, hf.trans (by kernel_rfl)⟩

end
end Go.X

set_option maxRecDepth 20000
namespace Go.X.Y
open Go.Proofs
noncomputable section
def T_mul51 : Tmpl := ⟨77, [.one (.lf (.int .u64 (.v 0))), .one (.lf (.int .u32 (.v 1)))], [], 2, 2, true, .tup [.lf (.int .u64 (.v 2)), .lf (.int .u64 (.v 3))], [], []⟩
def p_mul51 : Path := ⟨[(0, 4503599627370458), (0, 4294967295)], [], ⟨.tup [.lf (.int .u64 (.v 5)), .lf (.int .u64 (.v 8))], [], ⟨g_mul51, 9, [.pre 0 [(.v 0), (.v 2)]], [], []⟩⟩, ⟨outs_mul51, []⟩, 60⟩
theorem r_mul51 : runBody Try.prog [T_mul64] [] Try.f77 p_mul51.fuel T_mul51.args T_mul51.mem T_mul51.nin p_mul51.orc = some p_mul51.out := by kernel_rfl
theorem good_mul51 (W : World0 Try.prog) : Good W T_mul51 s_mul51 := straight (l := l_mul51) (p := p_mul51) (by exact ⟨good_mul64 W, trivial⟩) Try.func77 Try.call77 r_mul51 (by kernel_rfl) rfl

def T_Mult32 : Tmpl := ⟨50, [.one (.lf (.ptr 1 0)), .one (.lf (.ptr 0 0)), .one (.lf (.int .u32 (.v 5)))], [(us .u64 0 5), [.any, .any, .any, .any, .any]], 6, 5, true, .one (.lf (.ptr 1 0)), [none, some (us .u64 6 5)], []⟩
def p_Mult32 : Path := ⟨((bs 5 0 4503599627370458) ++ [(0, 4294967295)]), [], ⟨.one (.lf (.ptr 1 0)), [(us .u64 0 5), (us .u64 17 5)], ⟨g_Mult32, 22, [.pre 0 [(.v 4), (.v 5)], .pre 0 [(.v 3), (.v 5)], .pre 0 [(.v 2), (.v 5)], .pre 0 [(.v 1), (.v 5)], .pre 0 [(.v 0), (.v 5)]], [], [1, 1, 1, 1, 1]⟩⟩, ⟨outs_Mult32, []⟩, 60⟩
theorem r_Mult32 : runBody Try.prog [T_mul51] [] Try.f50 p_Mult32.fuel T_Mult32.args T_Mult32.mem T_Mult32.nin p_Mult32.orc = some p_Mult32.out := by kernel_rfl
theorem good_Mult32 (W : World0 Try.prog) : Good W T_Mult32 s_Mult32 := straight (l := l_Mult32) (p := p_Mult32) (by exact ⟨good_mul51 W, trivial⟩) Try.func50 Try.call50 r_Mult32 (by kernel_rfl) rfl

def T_SetWide : Tmpl := ⟨43, [.one (.lf (.ptr 1 0)), .one (.lf (.slc 0 0 64 none))], [(us .u8 0 64), [.any, .any, .any, .any, .any]], 64, 5, true, .tup [.lf (.ptr 1 0), .lf (.cst .nilIface)], [none, some (us .u64 64 5)], []⟩
def p_SetWide : Path := ⟨(bs 64 0 255), [], ⟨.tup [.lf (.ptr 1 0), .lf (.cst .nilIface)], [(us .u8 0 64), (us .u64 99 5), (us .u64 64 5), (us .u64 71 5)], ⟨g_SetWide, 104, [.pre 0 [(.v 86), (.v 89), (.v 92), (.v 95), (.v 98)], .pre 1 (vs 32 32), .pre 1 (vs 0 32)], [], [1, 1, 1, 1, 1, 1, 3, 2]⟩⟩, ⟨outs_SetWide, []⟩, 60⟩
theorem r_SetWide : runBody Try.prog [T_carry, T_SetBytes] [] Try.f43 p_SetWide.fuel T_SetWide.args T_SetWide.mem T_SetWide.nin p_SetWide.orc = some p_SetWide.out := by kernel_rfl
theorem good_SetWide (W : World0 Try.prog) : Good W T_SetWide s_SetWide := straight (l := l_SetWide) (p := p_SetWide) (by exact ⟨good_carry W, good_SetBytes W, trivial⟩) Try.func43 Try.call43 r_SetWide (by kernel_rfl) rfl

def T_sz64r : Tmpl := ⟨8, [.one (.lf (.slc 0 0 64 none)), .one (.lf (.int .i64 (.l 64)))], [(us .u8 0 64)], 64, 0, true, .one (.lf (.slc 1 0 64 (some 64))), [none], [(us .u8 0 64)]⟩
def p_sz64r : Path := ⟨(bs 64 0 255), [], ⟨.one (.lf (.slc 1 0 64 (some 64))), [(us .u8 0 64), (us .u8 0 64)], ⟨g_sz64r, 64, [], [], [1]⟩⟩, ⟨outs_sz64r, [1]⟩, 60⟩
theorem r_sz64r : runBody Try.prog [] [] Try.f8 p_sz64r.fuel T_sz64r.args T_sz64r.mem T_sz64r.nin p_sz64r.orc = some p_sz64r.out := by kernel_rfl
theorem good_sz64r (W : World0 Try.prog) : Good W T_sz64r s_sz64r := straight (l := l_sz64r) (p := p_sz64r) (by exact trivial) Try.func8 Try.call8 r_sz64r (by kernel_rfl) rfl

def T_newEl : Tmpl := ⟨42, [], [], 0, 0, true, .one (.lf (.ptr 0 0)), [], [[.int .u64 (.l 0), .int .u64 (.l 0), .int .u64 (.l 0), .int .u64 (.l 0), .int .u64 (.l 0)]]⟩
def p_newEl : Path := ⟨[], [], ⟨.one (.lf (.ptr 0 0)), [[.int .u64 (.l 0), .int .u64 (.l 0), .int .u64 (.l 0), .int .u64 (.l 0), .int .u64 (.l 0)]], ⟨g_newEl, 0, [], [], []⟩⟩, ⟨outs_newEl, [0]⟩, 60⟩
theorem r_newEl : runBody Try.prog [] [] Try.f42 p_newEl.fuel T_newEl.args T_newEl.mem T_newEl.nin p_newEl.orc = some p_newEl.out := by kernel_rfl
theorem good_newEl (W : World0 Try.prog) : Good W T_newEl s_newEl := straight (l := l_newEl) (p := p_newEl) (by exact trivial) Try.func42 Try.call42 r_newEl (by kernel_rfl) rfl

end
end Go.X.Y
