/-
  A part of the proof of Ytkjhclknbkleoaa: texts S1, S2, L1, L2, LD1, LD2, V1, VG1, V2, V3, V5. No conditions.
-/
import Derived.Test.YtkjhclknbkleoaaR15
import Derived.KernelRfl
import Derived.WalkKit
import Derived.OwnWalk
import Derived.Laws.MakeOwn
import Derived.Laws.OwnMore
import Derived.Laws.CopyRow
import Derived.Test.YtkjhclknbkleoaaProg
import Derived.WalkMore
import Derived.ProofKit
import Derived.Below
import Derived.Handy
import Derived.Laws.ResultCell
namespace Go.X.Y
open Go.Proofs Go.RowKit

/-- the bytes of a slice that came in -/
def Row8 (w : World) (a : Option Addr) (len : Nat) (zs : List Int) : Prop :=
  (a = none ∧ len = 0) ∨
  ∃ x, a = some x ∧ len ≤ zs.length ∧ (∀ i, i < zs.length → w.cell? (x.add i) = some (.int .u8 (zs.getD i 0)))

/-- the first bytes, with noughts behind -/
def pad (n len : Nat) (zs : List Int) : List Int := (zs.take (min len n)) ++ List.replicate (n - min len n) 0

theorem block_addr (a : Addr) (i : Nat) : (a.add i).block = a.block := by unfold Addr.add; split <;> rfl

theorem info5 : (Try.prog.info? 5).map (fun i => (i.zero, i.size, i.bytes)) = some (some (.int .u8 0), 1, 1) := by kernel_rfl

set_option maxHeartbeats 4000000 in
set_option maxRecDepth 100000 in
theorem sized_calls (n : Nat) (hn : n ≤ 100) (a : Option Addr) (len cap : Nat) (zs : List Int) (w : World) (hr : Row8 w a len zs) (hc : a = none → cap = 0) (hb : ∀ x, a = some x → len ≠ 0 → x.block < w.heap.size) :
    Calls Try.prog 8 #[.slice a len cap, .int .i64 n] w fun e w' => e = .returned (.slice (some ⟨w.heap.size, 0, none⟩) n n) ∧
      ∃ Y : Array Value, Y.toList = (pad n len zs).map (Value.int .u8) ∧ w' = (w.alloc (.cells (madeCells #[.int .u8 0] n) 5)).setRow w.heap.size Y := by
  obtain ⟨i0, hi, hz0, hz1, hz2⟩ := info_parts info5
  have hinfo : (Try.prog.info? 5).map (·.size) = some 1 := by rw [hi]; simp [hz1]
  obtain ⟨M, hM⟩ : ∃ M, M = madeCells #[Value.int .u8 0] n := ⟨_, rfl⟩
  have hMl : M.toList = List.replicate n (.int .u8 0) := by rw [hM]; exact toList_madeCells_one _ _
  have hMs : M.size = n := by rw [hM, size_madeCells]
  have hmk : ∀ W : World, (Instr.makeSlice 22 (.int .i64 (n : Int)) (.int .i64 (n : Int))).run Try.prog W = .ok (.slice (some ⟨W.heap.size, 0, none⟩) n n) (W.alloc (.cells M 5)) := fun W => by
    have h := run_make (P := Try.prog) W 22 5 i0 (.int .u8 0) Try.underlying22 hi hz0 .i64 .i64 (n : Int) (n : Int) (by omega) (by omega) (by rw [hz2]; omega) (by omega)
    rw [hz1] at h
    have e : madeCells (Value.int .u8 0).cells ((n : Int).toNat * 1) = M := by rw [hM]; simp [Value.cells]
    rw [e] at h
    simpa using h
  rw [← hM]
  clear hM
  have hself : (w.alloc (.cells M 5)).setRow w.heap.size M = w.alloc (.cells M 5) := setRow_self _ _ _ 5 (0, 0) (heap_alloc_new w _)
  rcases hr with ⟨rfl, rfl⟩ | ⟨x, rfl, hl, hcell⟩
  · obtain rfl := hc rfl
    have hcp := run_copy_nil (P := Try.prog) (w.alloc (.cells M 5)) 22 22 3 5 ⟨w.heap.size, 0, none⟩ n n Try.underlying22 (by rw [hinfo]; rfl)
    go_enter Try.func8, Try.ntmps8
    go_wp2
    go_ret
    refine ⟨rfl, M, ?_, hself.symm⟩
    rw [hMl]
    simp [pad]
  · have hlen : (((zs.take (min len n)).map (Value.int .u8))).length = Nat.min len n := by
      rw [List.length_map, List.length_take]; show min (min len n) zs.length = min len n; omega
    have hcp := run_copy_row (P := Try.prog) (w.alloc (.cells M 5)) 22 22 3 5 w.heap.size 0 n n x len cap M 5 ((zs.take (min len n)).map (Value.int .u8)) Try.underlying22 hinfo (heap_alloc_new w _) hlen
      (by
        intro j v hj
        rw [List.getElem?_map, List.getElem?_take] at hj
        by_cases hjl : j < min len n
        · rw [if_pos hjl] at hj
          have hjz : j < zs.length := by omega
          rw [List.getElem?_eq_getElem hjz] at hj
          have hc1 := hcell j hjz
          rw [List.getD_eq_getElem?_getD, List.getElem?_eq_getElem hjz] at hc1
          have hxb := hb x rfl (by omega)
          have : (w.alloc (.cells M 5)).cell? (x.add j) = w.cell? (x.add j) := World.cell?_alloc_lt w _ (x.add j) (by rw [block_addr]; exact hxb)
          rw [this, hc1]
          exact hj
        · rw [if_neg hjl] at hj; simp at hj)
      (by rw [hlen, hMs, Nat.zero_add]; exact Nat.min_le_right _ _)
      (by
        intro v hv
        obtain ⟨m, -, rfl⟩ := List.mem_map.1 hv
        rfl)
    obtain ⟨Y, hY⟩ : ∃ Y, Y = (M.toList.take 0 ++ (zs.take (min len n)).map (Value.int .u8) ++ M.toList.drop (0 + ((zs.take (min len n)).map (Value.int .u8)).length)).toArray := ⟨_, rfl⟩
    rw [← hY] at hcp
    have hYl : Y.toList = (pad n len zs).map (Value.int .u8) := by
      rw [hY, List.toList_toArray, List.take_zero, List.nil_append, Nat.zero_add, hlen, hMl, List.drop_replicate]
      unfold pad
      rw [List.map_append, List.map_replicate]
    clear hY
    go_enter Try.func8, Try.ntmps8
    go_wp2
    go_ret
    exact ⟨rfl, Y, hYl, rfl⟩

end Go.X.Y

namespace Go.X.Y
open Go.Proofs Go.RowKit

def T_sz (k n : Nat) : Tmpl := ⟨8, [.one (.lf (.gho k)), .one (.lf (.int .i64 (.l n)))], [], 0, n, true, .one (.lf (.slc 0 0 n (some n))), [], [(List.range n).map fun i => .int .u8 (.v i)]⟩

theorem pad_len {n len : Nat} {zs : List Int} (h : len ≤ zs.length) : (pad n len zs).length = n := by
  unfold pad
  rw [List.length_append, List.length_take, List.length_replicate]; omega

theorem InD_take {b : Int} : ∀ {l : List Int} (n : Nat), InD b l → InD b (l.take n)
  | [], n, _ => by rw [List.take_nil]; trivial
  | _ :: _, 0, _ => trivial
  | _ :: _, n + 1, h => ⟨h.1, h.2.1, InD_take n h.2.2⟩

theorem InD_zeros {b : Int} (hb : 0 < b) : ∀ n : Nat, InD b (List.replicate n 0)
  | 0 => trivial
  | n + 1 => ⟨Int.le_refl _, hb, InD_zeros hb n⟩

theorem pad_in {n len : Nat} {zs : List Int} (h : len ≤ zs.length) (hz : InD 256 zs) : InB (BB n) (pad n len zs) :=
  in_BB (pad_len h) (InD_append (InD_take _ hz) (InD_zeros (by decide) _))

def s_sz (n len : Nat) (zs : List Int) (h : len ≤ zs.length) (hz : InD 256 zs) : X.Sem := X.Sem.of (fun _ => pad n len zs) [] (BB n) (fun _ _ => pad_in h hz)

theorem cell_of {w : World} {g i : Nat} {Y : Array Value} {t : TypeId} (hg : w.heap[g]? = some (.cells Y t (0, 0))) : w.cell? ⟨g, i, none⟩ = Y[i]? := by
  simp [World.cell?, hg]

theorem frozen_of {w : World} {g i : Nat} {Y : Array Value} {t : TypeId} (hg : w.heap[g]? = some (.cells Y t (0, 0))) : w.frozen? ⟨g, i, none⟩ = false := by
  simp [World.frozen?, hg]

set_option maxRecDepth 100000 in
theorem good_sz {W : World0 Try.prog} {k n len cap : Nat} {a : Option Addr} {zs : List Int} (hn : n ≤ 100) (h : len ≤ zs.length) (hz : InD 256 zs) (hgv : W.gv k = .slice a len cap)
    (hI : ∀ w, W.I w → W.base ≤ w.heap.size → Row8 w a len zs ∧ (∀ x, a = some x → len ≠ 0 → x.block < w.heap.size)) (hcap : a = none → cap = 0) : Good W (T_sz k n) (s_sz n len zs h hz) := by
  intro F pr c hF hp E σ w args hpre
  have hargs : args = [.slice a len cap, .int .i64 n] := by
    have ha := hpre.args
    show args = _
    cases ha with
    | cons h1 t1 =>
      cases t1 with
      | cons h2 t2 =>
        cases t2
        have h1 : _ = E.gv k := h1
        have h2 : _ = Value.int .i64 n := h2
        rw [h1, h2, hpre.gv, hgv]
  obtain ⟨r1, r2⟩ := hI w hpre.inv hpre.ble
  show Invokes Try.prog 8 ⟨args⟩ w _
  unfold Invokes
  rw [hargs, Try.call8]
  refine (sized_calls n hn a len cap zs w r1 hcap r2).mono fun e w' ⟨he, Y, hY, hw⟩ => ?_
  refine ⟨_, σ.set 0 (w.heap.size, 0), he, ?_⟩
  have hg : w'.heap[w.heap.size]? = some (.cells Y 5 (0, 0)) := by
    rw [hw]; exact setRow_heap _ _ _ _ 5 (0, 0) (heap_alloc_new w _)
  have hother : ∀ b, b ≠ w.heap.size → w'.heap[b]? = (w.alloc (.cells (madeCells #[.int .u8 0] n) 5)).heap[b]? := by
    intro b hb; rw [hw]; exact setRow_other _ _ _ _ hb
  have hsz : w'.heap.size = w.heap.size + 1 := by rw [hw]; simp
  have hold : ∀ b, b < w.heap.size → w'.heap[b]? = w.heap[b]? := by
    intro b hb
    rw [hother b (by omega)]
    exact (Ev.alloc w (fun _ _ => False) _).block b hb (fun _ h => h)
  have hYl : Y.toList.length = n := by rw [hY, List.length_map, pad_len h]
  have hval : ∀ i, i < n → E.ρ i = (pad n len zs).getD i 0 := by
    intro i hi
    have := hpre.out i hi
    rw [hF] at this
    have e : (T_sz k n).nin + i = i := Nat.zero_add i
    rw [e] at this
    exact this
  refine ⟨fun r hr => absurd hr (Nat.not_lt_zero r), ?_, ?_, ?_, ⟨?_, ?_⟩, ?_⟩
  · intro r hr
    have hr : 1 ≤ r := hr
    have := hpre.free r (Nat.zero_le r)
    show (if r = 0 then _ else σ r) = none
    rw [if_neg (by omega), this]
  · refine ⟨(w.heap.size, 0), n, rfl, Nat.le_refl n, ?_, rfl⟩
    intro c' h; cases h; rfl
  · intro r cs p h1 _
    have h1 : ([] : List (Option (List L)))[r]? = some (some cs) := h1
    simp at h1
  · intro j cs hj
    have hj : [((List.range n).map fun i => L.int .u8 (.v i))][j]? = some cs := hj
    match j, hj with
    | 0, hj =>
      simp at hj
      subst hj
      refine ⟨(w.heap.size, 0), rfl, Nat.le_refl _, by show w.heap.size < w'.heap.size; omega, ?_⟩
      intro i c hc
      have hi : i < n := by
        have := (List.getElem?_eq_some_iff.1 hc).1
        simpa using this
      rw [List.getElem?_map, List.getElem?_range hi] at hc
      cases hc
      have ea : adr (w.heap.size, 0) i = ⟨w.heap.size, i, none⟩ := by unfold adr; rw [Nat.zero_add]
      refine ⟨.int .u8 (E.ρ i), ?_, rfl, ?_⟩
      · rw [ea, cell_of hg, ← Array.getElem?_toList, hY, List.getElem?_map, List.getElem?_eq_getElem (by rw [pad_len h]; exact hi), hval i hi, List.getD_eq_getElem?_getD, List.getElem?_eq_getElem (by rw [pad_len h]; exact hi)]
        rfl
      · rw [ea]; exact frozen_of hg
  · intro i j p q cs cs' h1 h2 hne _ _
    have h1 : [((List.range n).map fun i => L.int .u8 (.v i))][i]? = some cs := h1
    have h2 : [((List.range n).map fun i => L.int .u8 (.v i))][j]? = some cs' := h2
    have := (List.getElem?_eq_some_iff.1 h1).1
    have := (List.getElem?_eq_some_iff.1 h2).1
    simp at *
    omega
  · refine ⟨by rw [hw]; rfl, by rw [hw]; rfl, by rw [hw]; rfl, by omega, fun b hb _ => hold b hb, ?_, ?_⟩
    · intro b o hb _
      unfold World.cell?
      simp only [hold b hb]
    · intro b o hb
      unfold World.frozen?
      simp only [hold b hb]

end Go.X.Y

set_option maxRecDepth 20000
namespace Go.X.Y
open Go.Proofs
abbrev T_szA : Tmpl := T_sz 0 32
abbrev T_szB : Tmpl := T_sz 1 32
end Go.X.Y

set_option maxRecDepth 20000
namespace Go.X.Y
open Go.Proofs

section
variable (a0 : Option Addr) (len0 cap0 : Nat) (a1 : Option Addr) (len1 cap1 : Nat) (w : World)

def gv2 : Nat → Value
  | 0 => .slice a0 len0 cap0
  | 1 => .slice a1 len1 cap1
  | _ => .slice none 0 0

def gl2 : Nat → Nat
  | 0 => len0
  | 1 => len1
  | _ => 0

theorem mixed : Try.prog.follows .mixedOrders = true := by kernel_rfl

/-- the world that the law finds -/
def W2 : World0 Try.prog where
  gv := gv2 a0 len0 cap0 a1 len1 cap1
  gl := gl2 len0 len1
  I := fun w' => ∀ b, b < w.heap.size → w'.heap[b]? = w.heap[b]?
  base := w.heap.size
  hg := fun k => by
    match k with
    | 0 => exact ⟨a0, cap0, rfl⟩
    | 1 => exact ⟨a1, cap1, rfl⟩
    | _ + 2 => exact ⟨none, 0, rfl⟩
  st := fun w1 w2 h _ _ h2 b hb => (h2 b hb).trans (h b hb)
  mix := mixed

end

/-- what is said of a slice that came in -/
structure SOk (w : World) (a : Option Addr) (len cap : Nat) (zs : List Int) : Prop where
  row : Row8 w a len zs
  nil : a = none → cap = 0
  lt : ∀ x, a = some x → len ≠ 0 → x.block < w.heap.size
  len : len ≤ zs.length
  bytes : InD 256 zs

theorem cell_same {w w' : World} (h : ∀ b, b < w.heap.size → w'.heap[b]? = w.heap[b]?) {x : Addr} (hx : x.block < w.heap.size) : w'.cell? x = w.cell? x := by
  have := h x.block hx
  unfold World.cell?
  simp only [this]

theorem SOk.keep {w w' : World} {a : Option Addr} {len cap : Nat} {zs : List Int} (h : SOk w a len cap zs) (hI : ∀ b, b < w.heap.size → w'.heap[b]? = w.heap[b]?) (hs : w.heap.size ≤ w'.heap.size) :
    Row8 w' a len zs ∧ (∀ x, a = some x → len ≠ 0 → x.block < w'.heap.size) := by
  refine ⟨?_, fun x hx hl => Nat.lt_of_lt_of_le (h.lt x hx hl) hs⟩
  rcases h.row with ⟨e1, e2⟩ | ⟨x, e, h1, h2⟩
  · exact .inl ⟨e1, e2⟩
  · refine .inr ⟨x, e, h1, ?_⟩
    intro i hi
    have hc := h2 i hi
    rw [← hc]
    have hb : (x.add i).block < w.heap.size := by
      unfold World.cell? at hc
      cases hh : w.heap[(x.add i).block]? with
      | none => rw [hh] at hc; simp at hc
      | some o => exact (Array.getElem?_eq_some_iff.1 hh).1
    exact cell_same hI hb

section
variable {a0 : Option Addr} {len0 cap0 : Nat} {z0 : List Int} {a1 : Option Addr} {len1 cap1 : Nat} {z1 : List Int} {w : World}
  (h0 : SOk w a0 len0 cap0 z0) (h1 : SOk w a1 len1 cap1 z1)

def sA : X.Sem := s_sz 32 len0 z0 h0.len h0.bytes
def sB : X.Sem := s_sz 32 len1 z1 h1.len h1.bytes

theorem good_szA : Good (W2 a0 len0 cap0 a1 len1 cap1 w) T_szA (sA h0) :=
  good_sz (k := 0) (a := a0) (by decide) h0.len h0.bytes rfl (fun _ hI hs => h0.keep hI hs) h0.nil
theorem good_szB : Good (W2 a0 len0 cap0 a1 len1 cap1 w) T_szB (sB h1) :=
  good_sz (k := 1) (a := a1) (by decide) h1.len h1.bytes rfl (fun _ hI hs => h1.keep hI hs) h1.nil

theorem one_out {v : Int} (h : v = 1) (j : Nat) (a : A) (ha : [A.l v][j]? = some a) {ρ : Nat → Int} : ([1] : List Int).getD j 0 = a.ev ρ := by
  match j, ha with
  | 0, ha => cases ha; exact h.symm

theorem one_outv {x : Nat} {ρ : Nat → Int} (h : ρ x = 1) (j : Nat) (a : A) (ha : [A.v x][j]? = some a) : ([1] : List Int).getD j 0 = a.ev ρ := by
  match j, ha with
  | 0, ha => cases ha; exact h.symm

include h0 h1 in
end
end Go.X.Y

set_option maxRecDepth 20000
namespace Go.X.Y
open Go.Proofs
def T_FnDecodedA : Tmpl := ⟨5, [.one (.lf (.gho 0)), .one (.lf (.int .i64 (.v 0)))], [], 1, 1, true, .one (.lf (.bool (.v 1))), [], []⟩
def g_FnDecodedA_0 : List (Nat × Ins) := [(2, .op2 .gtr .i64 (.v 1) (.l 2147483647)),
  (1, .app 1000000 [] 0)]
def p_FnDecodedA_0 : Out := ⟨.one (.lf (.bool (.l 1))), [], ⟨g_FnDecodedA_0, 3, [.cond (.v 2) true], [], []⟩⟩
theorem r_FnDecodedA_0 : runBody Try.prog [T_same32, T_sz64r, T_Edw, T_Dec, T_Enc, T_Mont, T_pDec, T_szA, T_szB] [] Try.f5 200 T_FnDecodedA.args T_FnDecodedA.mem T_FnDecodedA.nin [true] = some p_FnDecodedA_0 := by kernel_rfl
def ft_FnDecodedA_0 : Fit := ⟨[(.l 1)], []⟩
theorem w_FnDecodedA_0 : (fitsB T_FnDecodedA p_FnDecodedA_0 ft_FnDecodedA_0 && wfS T_FnDecodedA.nin p_FnDecodedA_0.g.ssa p_FnDecodedA_0.g.n) = true := by kernel_rfl
theorem E_FnDecodedA_0 {F : Fns} {v : Nat → Int} (h : StHold F v (rawSt p_FnDecodedA_0.g.ssa)) : (v 1 = (F 1000000 []).getD 0 0) ∧ (v 2 = op2 .gtr .i64 (v 1) 2147483647) := Eq.mp (by kernel_rfl) h
theorem A_FnDecodedA_0 {pr : Prs} {v : Nat → Int} (h : ((v 2 != 0) = true) ∧ True) : HoldL pr v p_FnDecodedA_0.g.asm := Eq.mp (by kernel_rfl) h

def g_FnDecodedA_1 : List (Nat × Ins) := (List.flatten [[(221, .app 0 ((vs 122 32) ++ (vs 189 32)) 0)], apps 5 ((vs 40 49) ++ (ls 0 15)) 189 32, [(188, .app 0 ((vs 90 32) ++ (vs 156 32)) 0)], apps 4 ((vs 40 49) ++ (ls 0 15)) 156 32, [(155, .ite (.v 89) (.l 0) (.l 1)), (154, .ite (.v 89) (.l 1) (.l 0))], apps 6 (vs 8 32) 90 64, apps 3 ((vs 40 16) ++ (vs 8 32)) 56 34, apps 2 [] 40 16, apps 7 [] 8 32, [(7, .op2 .neq .i64 (.v 6) (.l 0)), (6, .op2 .rem .i64 (.v 5) (.l 9)), (5, .max (.v 0) (.v 4)), (4, .op2 .sub .i64 (.l 0) (.v 3)), (3, .op2 .add .i64 (.v 0) (.l 1)), (2, .op2 .gtr .i64 (.v 1) (.l 2147483647)), (1, .app 1000000 [] 0)]])
def p_FnDecodedA_1 : Out := ⟨.one (.lf (.bool (.v 221))), [(us .u8 8 32), (us .u32 40 16), ((us .u32 56 33) ++ [.int .u32 (.l 0), .int .u32 (.l 0), .int .u32 (.l 0), .int .u32 (.l 0), .int .u32 (.l 0), .int .u32 (.l 0), .int .u32 (.l 0), .int .u32 (.l 0), .int .u32 (.l 0), .int .u32 (.l 0), .int .u32 (.l 0), .int .u32 (.l 0), .int .u32 (.l 0), .int .u32 (.l 0), .int .u32 (.l 0)]), (us .u8 90 32), (us .u8 122 32), (us .u8 156 32), (us .u8 189 32)], ⟨g_FnDecodedA_1, 222, [.pre 0 ((vs 122 32) ++ (vs 189 32)), .pre 5 ((vs 40 49) ++ (ls 0 15)), .cond (.v 188) true, .pre 0 ((vs 90 32) ++ (vs 156 32)), .pre 4 ((vs 40 49) ++ (ls 0 15)), .cond (.v 154) true, .pre 6 (vs 8 32), .pre 3 ((vs 40 16) ++ (vs 8 32)), .pre 2 [], .pre 7 [], .cond (.v 7) true, .cond (.v 2) false], [], [2, 1]⟩⟩
theorem r_FnDecodedA_1 : runBody Try.prog [T_same32, T_sz64r, T_Edw, T_Dec, T_Enc, T_Mont, T_pDec, T_szA, T_szB] [] Try.f5 200 T_FnDecodedA.args T_FnDecodedA.mem T_FnDecodedA.nin [false, true, true, true] = some p_FnDecodedA_1 := by kernel_rfl
def ft_FnDecodedA_1 : Fit := ⟨[(.v 221)], []⟩
theorem w_FnDecodedA_1 : (fitsB T_FnDecodedA p_FnDecodedA_1 ft_FnDecodedA_1 && wfS T_FnDecodedA.nin p_FnDecodedA_1.g.ssa p_FnDecodedA_1.g.n) = true := by kernel_rfl
theorem E_FnDecodedA_1 {F : Fns} {v : Nat → Int} (h : StHold F v (rawSt p_FnDecodedA_1.g.ssa)) : (v 1 = (F 1000000 []).getD 0 0) ∧ (v 2 = op2 .gtr .i64 (v 1) 2147483647) ∧ (v 3 = op2 .add .i64 (v 0) 1) ∧ (v 4 = op2 .sub .i64 0 (v 3)) ∧ (v 5 = (if v 4 > v 0 then v 4 else v 0)) ∧ (v 6 = op2 .rem .i64 (v 5) 9) ∧ (v 7 = op2 .neq .i64 (v 6) 0) ∧ (seg v 8 32 = gets (F 7 ([] : List Int)) 0 32) ∧ (seg v 40 16 = gets (F 2 ([] : List Int)) 0 16) ∧ (seg v 56 34 = gets (F 3 (seg v 40 16 ++ seg v 8 32)) 0 34) ∧ (seg v 90 64 = gets (F 6 (seg v 8 32)) 0 64) ∧ (v 154 = (if v 89 ≠ 0 then 1 else 0)) ∧ (v 155 = (if v 89 ≠ 0 then 0 else 1)) ∧ (seg v 156 32 = gets (F 4 (seg v 40 49 ++ [0, 0, 0, 0, 0, 0, 0, 0, 0, 0, 0, 0, 0, 0, 0])) 0 32) ∧ (v 188 = (F 0 (seg v 90 32 ++ seg v 156 32)).getD 0 0) ∧ (seg v 189 32 = gets (F 5 (seg v 40 49 ++ [0, 0, 0, 0, 0, 0, 0, 0, 0, 0, 0, 0, 0, 0, 0])) 0 32) ∧ (v 221 = (F 0 (seg v 122 32 ++ seg v 189 32)).getD 0 0) := Eq.mp (by kernel_rfl) h
theorem A_FnDecodedA_1 {pr : Prs} {v : Nat → Int} (h : (pr 0 (seg v 122 32 ++ seg v 189 32)) ∧ (pr 5 (seg v 40 49 ++ [0, 0, 0, 0, 0, 0, 0, 0, 0, 0, 0, 0, 0, 0, 0])) ∧ ((v 188 != 0) = true) ∧ (pr 0 (seg v 90 32 ++ seg v 156 32)) ∧ (pr 4 (seg v 40 49 ++ [0, 0, 0, 0, 0, 0, 0, 0, 0, 0, 0, 0, 0, 0, 0])) ∧ ((v 154 != 0) = true) ∧ (pr 6 (seg v 8 32)) ∧ (pr 3 (seg v 40 16 ++ seg v 8 32)) ∧ (pr 2 ([] : List Int)) ∧ (pr 7 ([] : List Int)) ∧ ((v 7 != 0) = true) ∧ ((v 2 != 0) = false) ∧ True) : HoldL pr v p_FnDecodedA_1.g.asm := Eq.mp (by kernel_rfl) h

def T_FnDecodedB : Tmpl := ⟨5, [.one (.lf (.gho 0)), .one (.lf (.int .i64 (.v 0)))], [], 1, 0, true, .one (.lf (.bool (.l 1))), [], []⟩
def g_FnDecodedB_0 : List (Nat × Ins) := [(2, .op2 .gtr .i64 (.v 1) (.l 2147483647)),
  (1, .app 1000000 [] 0)]
def p_FnDecodedB_0 : Out := ⟨.one (.lf (.bool (.l 1))), [], ⟨g_FnDecodedB_0, 3, [.cond (.v 2) true], [], []⟩⟩
theorem r_FnDecodedB_0 : runBody Try.prog [T_same32, T_sz64r, T_Edw, T_Dec, T_Enc, T_Mont, T_pDecF, T_szA, T_szB] [] Try.f5 200 T_FnDecodedB.args T_FnDecodedB.mem T_FnDecodedB.nin [true] = some p_FnDecodedB_0 := by kernel_rfl
def ft_FnDecodedB_0 : Fit := ⟨[], []⟩
theorem w_FnDecodedB_0 : (fitsB T_FnDecodedB p_FnDecodedB_0 ft_FnDecodedB_0 && wfS T_FnDecodedB.nin p_FnDecodedB_0.g.ssa p_FnDecodedB_0.g.n) = true := by kernel_rfl
theorem E_FnDecodedB_0 {F : Fns} {v : Nat → Int} (h : StHold F v (rawSt p_FnDecodedB_0.g.ssa)) : (v 1 = (F 1000000 []).getD 0 0) ∧ (v 2 = op2 .gtr .i64 (v 1) 2147483647) := Eq.mp (by kernel_rfl) h
theorem A_FnDecodedB_0 {pr : Prs} {v : Nat → Int} (h : ((v 2 != 0) = true) ∧ True) : HoldL pr v p_FnDecodedB_0.g.asm := Eq.mp (by kernel_rfl) h

def g_FnDecodedB_1 : List (Nat × Ins) := (List.flatten [[(91, .ite (.v 89) (.l 0) (.l 1)), (90, .ite (.v 89) (.l 1) (.l 0))], apps 3 ((vs 40 16) ++ (vs 8 32)) 56 34, apps 2 [] 40 16, apps 7 [] 8 32, [(7, .op2 .neq .i64 (.v 6) (.l 0)), (6, .op2 .rem .i64 (.v 5) (.l 9)), (5, .max (.v 0) (.v 4)), (4, .op2 .sub .i64 (.l 0) (.v 3)), (3, .op2 .add .i64 (.v 0) (.l 1)), (2, .op2 .gtr .i64 (.v 1) (.l 2147483647)), (1, .app 1000000 [] 0)]])
def p_FnDecodedB_1 : Out := ⟨.one (.lf (.bool (.l 1))), [(us .u8 8 32), (us .u32 40 16), ((us .u32 56 33) ++ [.int .u32 (.l 0), .int .u32 (.l 0), .int .u32 (.l 0), .int .u32 (.l 0), .int .u32 (.l 0), .int .u32 (.l 0), .int .u32 (.l 0), .int .u32 (.l 0), .int .u32 (.l 0), .int .u32 (.l 0), .int .u32 (.l 0), .int .u32 (.l 0), .int .u32 (.l 0), .int .u32 (.l 0), .int .u32 (.l 0)])], ⟨g_FnDecodedB_1, 92, [.cond (.v 91) true, .pre 6 (vs 8 32), .pre 3 ((vs 40 16) ++ (vs 8 32)), .pre 2 [], .pre 7 [], .cond (.v 7) true, .cond (.v 2) false], [], [2, 1]⟩⟩
theorem r_FnDecodedB_1 : runBody Try.prog [T_same32, T_sz64r, T_Edw, T_Dec, T_Enc, T_Mont, T_pDecF, T_szA, T_szB] [] Try.f5 200 T_FnDecodedB.args T_FnDecodedB.mem T_FnDecodedB.nin [false, true, true] = some p_FnDecodedB_1 := by kernel_rfl
def ft_FnDecodedB_1 : Fit := ⟨[], []⟩
theorem w_FnDecodedB_1 : (fitsB T_FnDecodedB p_FnDecodedB_1 ft_FnDecodedB_1 && wfS T_FnDecodedB.nin p_FnDecodedB_1.g.ssa p_FnDecodedB_1.g.n) = true := by kernel_rfl
theorem E_FnDecodedB_1 {F : Fns} {v : Nat → Int} (h : StHold F v (rawSt p_FnDecodedB_1.g.ssa)) : (v 1 = (F 1000000 []).getD 0 0) ∧ (v 2 = op2 .gtr .i64 (v 1) 2147483647) ∧ (v 3 = op2 .add .i64 (v 0) 1) ∧ (v 4 = op2 .sub .i64 0 (v 3)) ∧ (v 5 = (if v 4 > v 0 then v 4 else v 0)) ∧ (v 6 = op2 .rem .i64 (v 5) 9) ∧ (v 7 = op2 .neq .i64 (v 6) 0) ∧ (seg v 8 32 = gets (F 7 ([] : List Int)) 0 32) ∧ (seg v 40 16 = gets (F 2 ([] : List Int)) 0 16) ∧ (seg v 56 34 = gets (F 3 (seg v 40 16 ++ seg v 8 32)) 0 34) ∧ (v 90 = (if v 89 ≠ 0 then 1 else 0)) ∧ (v 91 = (if v 89 ≠ 0 then 0 else 1)) := Eq.mp (by kernel_rfl) h
theorem A_FnDecodedB_1 {pr : Prs} {v : Nat → Int} (h : ((v 91 != 0) = true) ∧ (pr 6 (seg v 8 32)) ∧ (pr 3 (seg v 40 16 ++ seg v 8 32)) ∧ (pr 2 ([] : List Int)) ∧ (pr 7 ([] : List Int)) ∧ ((v 7 != 0) = true) ∧ ((v 2 != 0) = false) ∧ True) : HoldL pr v p_FnDecodedB_1.g.asm := Eq.mp (by kernel_rfl) h

def T_FnDecodedC : Tmpl := ⟨5, [.one (.lf (.slc 0 0 32 none)), .one (.lf (.int .i64 (.v 32)))], [(us .u8 0 32)], 33, 1, true, .one (.lf (.bool (.v 33))), [none], []⟩
def g_FnDecodedC_0 : List (Nat × Ins) := (List.flatten [[(219, .app 0 ((vs 120 32) ++ (vs 187 32)) 0)], apps 5 ((vs 38 49) ++ (ls 0 15)) 187 32, [(186, .app 0 ((vs 88 32) ++ (vs 154 32)) 0)], apps 4 ((vs 38 49) ++ (ls 0 15)) 154 32, [(153, .ite (.v 87) (.l 0) (.l 1)), (152, .ite (.v 87) (.l 1) (.l 0))], apps 6 (vs 0 32) 88 64, apps 3 ((vs 38 16) ++ (vs 0 32)) 54 34, apps 2 [] 38 16, [(37, .op2 .neq .i64 (.v 36) (.l 0)), (36, .op2 .rem .i64 (.v 35) (.l 9)), (35, .max (.v 32) (.v 34)), (34, .op2 .sub .i64 (.l 0) (.v 33)), (33, .op2 .add .i64 (.v 32) (.l 1))]])
def p_FnDecodedC_0 : Out := ⟨.one (.lf (.bool (.v 219))), [(us .u8 0 32), (us .u32 38 16), ((us .u32 54 33) ++ [.int .u32 (.l 0), .int .u32 (.l 0), .int .u32 (.l 0), .int .u32 (.l 0), .int .u32 (.l 0), .int .u32 (.l 0), .int .u32 (.l 0), .int .u32 (.l 0), .int .u32 (.l 0), .int .u32 (.l 0), .int .u32 (.l 0), .int .u32 (.l 0), .int .u32 (.l 0), .int .u32 (.l 0), .int .u32 (.l 0)]), (us .u8 88 32), (us .u8 120 32), (us .u8 154 32), (us .u8 187 32)], ⟨g_FnDecodedC_0, 220, [.pre 0 ((vs 120 32) ++ (vs 187 32)), .pre 5 ((vs 38 49) ++ (ls 0 15)), .cond (.v 186) true, .pre 0 ((vs 88 32) ++ (vs 154 32)), .pre 4 ((vs 38 49) ++ (ls 0 15)), .cond (.v 152) true, .pre 6 (vs 0 32), .pre 3 ((vs 38 16) ++ (vs 0 32)), .pre 2 [], .cond (.v 37) false], [], [2, 1]⟩⟩
theorem r_FnDecodedC_0 : runBody Try.prog [T_same32, T_sz64r, T_Edw, T_Dec, T_Enc, T_Mont, T_pDec, T_szA, T_szB] [] Try.f5 200 T_FnDecodedC.args T_FnDecodedC.mem T_FnDecodedC.nin [false, true, true] = some p_FnDecodedC_0 := by kernel_rfl
def ft_FnDecodedC_0 : Fit := ⟨[(.v 219)], []⟩
theorem w_FnDecodedC_0 : (fitsB T_FnDecodedC p_FnDecodedC_0 ft_FnDecodedC_0 && wfS T_FnDecodedC.nin p_FnDecodedC_0.g.ssa p_FnDecodedC_0.g.n) = true := by kernel_rfl
theorem E_FnDecodedC_0 {F : Fns} {v : Nat → Int} (h : StHold F v (rawSt p_FnDecodedC_0.g.ssa)) : (v 33 = op2 .add .i64 (v 32) 1) ∧ (v 34 = op2 .sub .i64 0 (v 33)) ∧ (v 35 = (if v 34 > v 32 then v 34 else v 32)) ∧ (v 36 = op2 .rem .i64 (v 35) 9) ∧ (v 37 = op2 .neq .i64 (v 36) 0) ∧ (seg v 38 16 = gets (F 2 ([] : List Int)) 0 16) ∧ (seg v 54 34 = gets (F 3 (seg v 38 16 ++ seg v 0 32)) 0 34) ∧ (seg v 88 64 = gets (F 6 (seg v 0 32)) 0 64) ∧ (v 152 = (if v 87 ≠ 0 then 1 else 0)) ∧ (v 153 = (if v 87 ≠ 0 then 0 else 1)) ∧ (seg v 154 32 = gets (F 4 (seg v 38 49 ++ [0, 0, 0, 0, 0, 0, 0, 0, 0, 0, 0, 0, 0, 0, 0])) 0 32) ∧ (v 186 = (F 0 (seg v 88 32 ++ seg v 154 32)).getD 0 0) ∧ (seg v 187 32 = gets (F 5 (seg v 38 49 ++ [0, 0, 0, 0, 0, 0, 0, 0, 0, 0, 0, 0, 0, 0, 0])) 0 32) ∧ (v 219 = (F 0 (seg v 120 32 ++ seg v 187 32)).getD 0 0) := Eq.mp (by kernel_rfl) h
theorem A_FnDecodedC_0 {pr : Prs} {v : Nat → Int} (h : (pr 0 (seg v 120 32 ++ seg v 187 32)) ∧ (pr 5 (seg v 38 49 ++ [0, 0, 0, 0, 0, 0, 0, 0, 0, 0, 0, 0, 0, 0, 0])) ∧ ((v 186 != 0) = true) ∧ (pr 0 (seg v 88 32 ++ seg v 154 32)) ∧ (pr 4 (seg v 38 49 ++ [0, 0, 0, 0, 0, 0, 0, 0, 0, 0, 0, 0, 0, 0, 0])) ∧ ((v 152 != 0) = true) ∧ (pr 6 (seg v 0 32)) ∧ (pr 3 (seg v 38 16 ++ seg v 0 32)) ∧ (pr 2 ([] : List Int)) ∧ ((v 37 != 0) = false) ∧ True) : HoldL pr v p_FnDecodedC_0.g.asm := Eq.mp (by kernel_rfl) h

def T_FnDecodedD : Tmpl := ⟨5, [.one (.lf (.slc 0 0 32 none)), .one (.lf (.int .i64 (.v 32)))], [(us .u8 0 32)], 33, 0, true, .one (.lf (.bool (.l 1))), [none], []⟩
def g_FnDecodedD_0 : List (Nat × Ins) := (List.flatten [[(89, .ite (.v 87) (.l 0) (.l 1)), (88, .ite (.v 87) (.l 1) (.l 0))], apps 3 ((vs 38 16) ++ (vs 0 32)) 54 34, apps 2 [] 38 16, [(37, .op2 .neq .i64 (.v 36) (.l 0)), (36, .op2 .rem .i64 (.v 35) (.l 9)), (35, .max (.v 32) (.v 34)), (34, .op2 .sub .i64 (.l 0) (.v 33)), (33, .op2 .add .i64 (.v 32) (.l 1))]])
def p_FnDecodedD_0 : Out := ⟨.one (.lf (.bool (.l 1))), [(us .u8 0 32), (us .u32 38 16), ((us .u32 54 33) ++ [.int .u32 (.l 0), .int .u32 (.l 0), .int .u32 (.l 0), .int .u32 (.l 0), .int .u32 (.l 0), .int .u32 (.l 0), .int .u32 (.l 0), .int .u32 (.l 0), .int .u32 (.l 0), .int .u32 (.l 0), .int .u32 (.l 0), .int .u32 (.l 0), .int .u32 (.l 0), .int .u32 (.l 0), .int .u32 (.l 0)])], ⟨g_FnDecodedD_0, 90, [.cond (.v 89) true, .pre 6 (vs 0 32), .pre 3 ((vs 38 16) ++ (vs 0 32)), .pre 2 [], .cond (.v 37) false], [], [2, 1]⟩⟩
theorem r_FnDecodedD_0 : runBody Try.prog [T_same32, T_sz64r, T_Edw, T_Dec, T_Enc, T_Mont, T_pDecF, T_szA, T_szB] [] Try.f5 200 T_FnDecodedD.args T_FnDecodedD.mem T_FnDecodedD.nin [false, true] = some p_FnDecodedD_0 := by kernel_rfl
def ft_FnDecodedD_0 : Fit := ⟨[], []⟩
theorem w_FnDecodedD_0 : (fitsB T_FnDecodedD p_FnDecodedD_0 ft_FnDecodedD_0 && wfS T_FnDecodedD.nin p_FnDecodedD_0.g.ssa p_FnDecodedD_0.g.n) = true := by kernel_rfl
theorem E_FnDecodedD_0 {F : Fns} {v : Nat → Int} (h : StHold F v (rawSt p_FnDecodedD_0.g.ssa)) : (v 33 = op2 .add .i64 (v 32) 1) ∧ (v 34 = op2 .sub .i64 0 (v 33)) ∧ (v 35 = (if v 34 > v 32 then v 34 else v 32)) ∧ (v 36 = op2 .rem .i64 (v 35) 9) ∧ (v 37 = op2 .neq .i64 (v 36) 0) ∧ (seg v 38 16 = gets (F 2 ([] : List Int)) 0 16) ∧ (seg v 54 34 = gets (F 3 (seg v 38 16 ++ seg v 0 32)) 0 34) ∧ (v 88 = (if v 87 ≠ 0 then 1 else 0)) ∧ (v 89 = (if v 87 ≠ 0 then 0 else 1)) := Eq.mp (by kernel_rfl) h
theorem A_FnDecodedD_0 {pr : Prs} {v : Nat → Int} (h : ((v 89 != 0) = true) ∧ (pr 6 (seg v 0 32)) ∧ (pr 3 (seg v 38 16 ++ seg v 0 32)) ∧ (pr 2 ([] : List Int)) ∧ ((v 37 != 0) = false) ∧ True) : HoldL pr v p_FnDecodedD_0.g.asm := Eq.mp (by kernel_rfl) h

end Go.X.Y

set_option maxRecDepth 20000
namespace Go.X.Y
open Go.Proofs

/-! ### the law of decoded points -/

/-- what the law asks of the number -/
def nine (n : Int) : Bool := op2 .neq .i64 (op2 .rem .i64 (if op2 .sub .i64 0 (op2 .add .i64 n 1) > n then op2 .sub .i64 0 (op2 .add .i64 n 1) else n) 9) 0 != 0

theorem sok_nil (w : World) : SOk w none 0 0 [] := ⟨.inl ⟨rfl, rfl⟩, fun _ => rfl, (fun _ h => by cases h), Nat.le_refl _, trivial⟩

theorem Dec_yes {b : List Int} (hb : InB (BB 32) b) (hp : isPt b) : f_Dec (nF dF ++ b) = nF (xF (eF b) (sgB b)) ++ nF (eF b) ++ [1, 1] := (Dec_val hb).trans (if_pos hp)
theorem Dec_no {b : List Int} (hb : InB (BB 32) b) (hp : ¬ isPt b) : f_Dec (nF dF ++ b) = List.replicate 34 0 := (Dec_val hb).trans (if_neg hp)

/-- the pieces of a point that Decode gives -/
theorem dec_split {ρ : Nat → Int} {k : Nat} {x y : Fp} (hd : seg ρ k 16 = nF dF) (h : seg ρ (k + 16) 34 = nF x ++ nF y ++ [1, 1]) :
    seg ρ k 49 ++ [0, 0, 0, 0, 0, 0, 0, 0, 0, 0, 0, 0, 0, 0, 0] = nF dF ++ (nF x ++ (nF y ++ nF 1)) ∧ ρ (k + 49) = 1 := by
  obtain ⟨h1, h2⟩ := seg_two (n := 32) (m := 2) h (by rw [List.length_append, nF_len, nF_len])
  obtain ⟨h3, h4⟩ := seg_two (n := 16) (m := 16) h1 (nF_len _)
  have e1 : ρ (k + 16 + 32) = 1 := (List.cons.inj h2).1
  have e2 : ρ (k + 16 + 32 + 1) = 1 := (List.cons.inj (List.cons.inj h2).2).1
  have s1 : seg ρ k 49 = seg ρ k 16 ++ seg ρ (k + 16) 33 := seg_add ρ 16 33 k
  have s2 : seg ρ (k + 16) 33 = seg ρ (k + 16) 32 ++ [ρ (k + 16 + 32)] := seg_add ρ 32 1 (k + 16)
  refine ⟨?_, e2⟩
  rw [s1, s2, hd, h1, e1, nF_one]
  simp only [List.append_assoc]
  rfl

theorem dec_no {ρ : Nat → Int} {k : Nat} (h : seg ρ (k + 16) 34 = List.replicate 34 0) : ρ (k + 49) = 0 := by
  have := seg_getD (v := ρ) (n := 34) (x := k + 16) 33 (by decide)
  rw [h] at this
  exact this.symm

theorem no_out {ys : List Int} {ρ : Nat → Int} (j : Nat) (a : A) (ha : ([] : List A)[j]? = some a) : ys.getD j 0 = a.ev ρ := by
  simp at ha

theorem same_2 {a b : List Int} {t : Int} (ha : InB (BB 32) a) (h : a = b) (ht : t = (s_same32.f (a ++ b)).getD 0 0) : t = 1 := by
  subst h
  rw [same32_val ha ha, if_pos rfl] at ht
  exact ht

theorem encB_in (x y : Fp) : InB (BB 32) (encB x y) := by
  unfold encB
  by_cases h : x.val % 2 = 1
  · rw [if_pos h]; exact top_or (bB_in y)
  · rw [if_neg h]; exact bB_in y

theorem enc_1 (x y : Fp) : f_Enc (nF dF ++ (nF x ++ (nF y ++ nF 1))) = encB x y := by
  rw [Enc_val (nF_len _), inv_one, mul_one_F, mul_one_F]

theorem four_in (x y : Fp) : InB (WB 64) (nF dF ++ (nF x ++ (nF y ++ nF 1))) := InB.append (a := WB 16) (b := WB 48) (nF_in _) (InB.append (a := WB 16) (b := WB 32) (nF_in _) (nF_in2 _ _))

section
variable {a0 : Option Addr} {len0 cap0 : Nat} {z0 : List Int} {w : World}
def sp_A (_ : SOk w a0 len0 cap0 z0) : SemP := ⟨fun _ => [1], fun xs => nine (xs.getD 0 0) = true⟩
theorem good_FnA (h0 : SOk w a0 len0 cap0 z0) (hp : isPt (pad 32 len0 z0)) : GoodP (W2 a0 len0 cap0 none 0 0 w) T_FnDecodedA (sp_A h0) := by
  refine lawP_sound (ts := [T_same32, T_sz64r, T_Edw, T_Dec, T_Enc, T_Mont, T_pDec, T_szA, T_szB]) (l := [s_same32.toP, s_sz64r.toP, s_Edw.toP, s_Dec.toP, s_Enc.toP, s_Mont.toP, sp_dec, (sA h0).toP, (sB (sok_nil w)).toP]) (W := W2 a0 len0 cap0 none 0 0 w)
    ⟨(good_same32 _).toP, (good_sz64r _).toP, (good_Edw _).toP, (good_Dec _).toP, (good_Enc _).toP, (good_Mont _).toP, good_pDec _, (good_szA h0).toP, (good_szB (sok_nil w)).toP, trivial⟩ (show 9 ≤ 1000000 by decide) Try.func5 Try.call5 (by kernel_rfl) rfl ?_
  intro xs hlen hx
  have hx : nine (xs.getD 0 0) = true := hx
  by_cases g0 : (len0 : Int) > 2147483647
  · refine ⟨_, _, _, _, r_FnDecodedA_0, w_FnDecodedA_0, ?_⟩
    intro ρ _ hst
    obtain ⟨h1, h2⟩ := E_FnDecodedA_0 hst
    have h1 : ρ 1 = (len0 : Int) := h1
    rw [h1, gtr_b, decide_eq_true g0] at h2
    exact ⟨fun j a ha => one_out rfl j a ha, A_FnDecodedA_0 ⟨by rw [h2]; rfl, trivial⟩⟩
  have hb : InB (BB 32) (pad 32 len0 z0) := pad_in h0.len h0.bytes
  refine ⟨_, _, _, _, r_FnDecodedA_1, w_FnDecodedA_1, ?_⟩
  intro ρ hin hst
  obtain ⟨e1, e2, e3, e4, e5, e6, e7, e8, e40, e56, e90, e154, e155, e156, e188, e189, e221⟩ := E_FnDecodedA_1 hst
  clear hst
  have e1 : ρ 1 = (len0 : Int) := e1
  rw [e1, gtr_b, decide_eq_false g0] at e2
  have n0 : ρ 0 = xs.getD 0 0 := hin 0 (by decide)
  have e7 : (ρ 7 != 0) = nine (xs.getD 0 0) := by rw [e7, e6, e5, e4, e3, n0]; rfl
  rw [hx] at e7
  have e8 : seg ρ 8 32 = gets (pad 32 len0 z0) 0 32 := e8
  rw [gets_all (show _ = 32 from hb.len)] at e8
  have e40 : seg ρ 40 16 = gets (s_Edw.f []) 0 16 := e40
  rw [Edw_val, gets_all (nF_len _)] at e40
  have e56 : seg ρ 56 34 = gets (f_Dec (seg ρ 40 16 ++ seg ρ 8 32)) 0 34 := e56
  rw [e40, e8, Dec_yes hb hp, gets_all (by rw [List.length_append, List.length_append, nF_len, nF_len]; rfl)] at e56
  obtain ⟨c1, c2⟩ := dec_split e40 e56
  have c2 : ρ 89 = 1 := c2
  have e90 : seg ρ 90 64 = gets (sp_dec.f (seg ρ 8 32)) 0 64 := e90
  have hf : sp_dec.f (pad 32 len0 z0) = encB (xF (eF (pad 32 len0 z0)) (sgB (pad 32 len0 z0))) (eF (pad 32 len0 z0)) ++ bB ((1 + eF (pad 32 len0 z0)) * inv (1 - eF (pad 32 len0 z0))) := rfl
  rw [e8, hf, gets_all (by rw [List.length_append, encB_len, bB_len])] at e90
  obtain ⟨d1, d2⟩ := seg_two (n := 32) (m := 32) e90 (encB_len _ _)
  have d2 : seg ρ 122 32 = bB ((1 + eF (pad 32 len0 z0)) * inv (1 - eF (pad 32 len0 z0))) := d2
  rw [c2] at e154
  have e154 : ρ 154 = 1 := e154
  have e156 : seg ρ 156 32 = gets (f_Enc (seg ρ 40 49 ++ [0, 0, 0, 0, 0, 0, 0, 0, 0, 0, 0, 0, 0, 0, 0])) 0 32 := e156
  rw [c1, enc_1, gets_all (encB_len _ _)] at e156
  have e189 : seg ρ 189 32 = gets (s_Mont.f (seg ρ 40 49 ++ [0, 0, 0, 0, 0, 0, 0, 0, 0, 0, 0, 0, 0, 0, 0])) 0 32 := e189
  rw [c1, Mont_val (nF_in _), gets_all (bB_len _)] at e189
  have e188 : ρ 188 = (s_same32.f (seg ρ 90 32 ++ seg ρ 156 32)).getD 0 0 := e188
  rw [d1, e156] at e188
  have o1 := same_2 (encB_in _ _) rfl e188
  have e221 : ρ 221 = (s_same32.f (seg ρ 122 32 ++ seg ρ 189 32)).getD 0 0 := e221
  rw [d2, e189] at e221
  have o2 := same_2 (bB_in _) rfl e221
  exact ⟨one_outv o2, A_FnDecodedA_1 ⟨(by rw [d2, e189]; exact InB.append (bB_in _) (bB_in _)), (by rw [c1]; exact four_in _ _), (by rw [o1]; rfl), (by rw [d1, e156]; exact InB.append (encB_in _ _) (encB_in _ _)), (by rw [c1]; exact four_in _ _), (by rw [e154]; rfl), (by rw [e8]; exact ⟨hb, hp⟩), (by rw [e40, e8]; exact InB.append (a := WB 16) (b := BB 32) (nF_in _) hb), trivial, trivial, e7, (by rw [e2]; rfl), trivial⟩⟩
end

section
variable {a0 : Option Addr} {len0 cap0 : Nat} {z0 : List Int} {w : World}
def sp_B (_ : SOk w a0 len0 cap0 z0) : SemP := ⟨fun _ => [1], fun xs => nine (xs.getD 0 0) = true⟩
theorem good_FnB (h0 : SOk w a0 len0 cap0 z0) (hp : ¬ isPt (pad 32 len0 z0)) : GoodP (W2 a0 len0 cap0 none 0 0 w) T_FnDecodedB (sp_B h0) := by
  refine lawP_sound (ts := [T_same32, T_sz64r, T_Edw, T_Dec, T_Enc, T_Mont, T_pDecF, T_szA, T_szB]) (l := [s_same32.toP, s_sz64r.toP, s_Edw.toP, s_Dec.toP, s_Enc.toP, s_Mont.toP, sp_decF, (sA h0).toP, (sB (sok_nil w)).toP]) (W := W2 a0 len0 cap0 none 0 0 w)
    ⟨(good_same32 _).toP, (good_sz64r _).toP, (good_Edw _).toP, (good_Dec _).toP, (good_Enc _).toP, (good_Mont _).toP, good_pDecF _, (good_szA h0).toP, (good_szB (sok_nil w)).toP, trivial⟩ (show 9 ≤ 1000000 by decide) Try.func5 Try.call5 (by kernel_rfl) rfl ?_
  intro xs hlen hx
  have hx : nine (xs.getD 0 0) = true := hx
  by_cases g0 : (len0 : Int) > 2147483647
  · refine ⟨_, _, _, _, r_FnDecodedB_0, w_FnDecodedB_0, ?_⟩
    intro ρ _ hst
    obtain ⟨h1, h2⟩ := E_FnDecodedB_0 hst
    have h1 : ρ 1 = (len0 : Int) := h1
    rw [h1, gtr_b, decide_eq_true g0] at h2
    exact ⟨no_out, A_FnDecodedB_0 ⟨by rw [h2]; rfl, trivial⟩⟩
  have hb : InB (BB 32) (pad 32 len0 z0) := pad_in h0.len h0.bytes
  refine ⟨_, _, _, _, r_FnDecodedB_1, w_FnDecodedB_1, ?_⟩
  intro ρ hin hst
  obtain ⟨e1, e2, e3, e4, e5, e6, e7, e8, e40, e56, e90, e91⟩ := E_FnDecodedB_1 hst
  clear hst
  have e1 : ρ 1 = (len0 : Int) := e1
  rw [e1, gtr_b, decide_eq_false g0] at e2
  have n0 : ρ 0 = xs.getD 0 0 := hin 0 (by decide)
  have e7 : (ρ 7 != 0) = nine (xs.getD 0 0) := by rw [e7, e6, e5, e4, e3, n0]; rfl
  rw [hx] at e7
  have e8 : seg ρ 8 32 = gets (pad 32 len0 z0) 0 32 := e8
  rw [gets_all (show _ = 32 from hb.len)] at e8
  have e40 : seg ρ 40 16 = gets (s_Edw.f []) 0 16 := e40
  rw [Edw_val, gets_all (nF_len _)] at e40
  have e56 : seg ρ 56 34 = gets (f_Dec (seg ρ 40 16 ++ seg ρ 8 32)) 0 34 := e56
  rw [e40, e8, Dec_no hb hp, gets_all (List.length_replicate ..)] at e56
  have c2 : ρ 89 = 0 := dec_no e56
  rw [c2] at e91
  have e91 : ρ 91 = 1 := e91
  exact ⟨no_out, A_FnDecodedB_1 ⟨(by rw [e91]; rfl), (by rw [e8]; exact ⟨hb, hp⟩), (by rw [e40, e8]; exact InB.append (a := WB 16) (b := BB 32) (nF_in _) hb), trivial, trivial, e7, (by rw [e2]; rfl), trivial⟩⟩
end

/-- a world where no slice comes in but as a region -/
def W0 : World0 Try.prog where
  gv := fun _ => .slice none 0 0
  gl := fun _ => 0
  I := fun _ => True
  base := 0
  hg := fun _ => ⟨none, 0, rfl⟩
  st := fun _ _ _ _ _ _ => trivial
  mix := mixed

def s_z0 : X.Sem := s_sz 32 0 [] (Nat.le_refl _) trivial

theorem good_z0 (k : Nat) : Good W0 (T_sz k 32) s_z0 :=
  good_sz (W := W0) (k := k) (n := 32) (len := 0) (zs := []) (a := none) (cap := 0) (by decide) (Nat.le_refl _) trivial rfl (fun _ _ _ => ⟨.inl ⟨rfl, rfl⟩, fun x h => by cases h⟩) (fun _ => rfl)

section
variable {b : List Int}
def sp_C (b : List Int) : SemP := ⟨fun _ => [1], fun xs => xs.take 32 = b ∧ nine (xs.getD 32 0) = false⟩
theorem good_FnC (hb : InB (BB 32) b) (hp : isPt b) : GoodP W0 T_FnDecodedC (sp_C b) := by
  refine lawP_sound (ts := [T_same32, T_sz64r, T_Edw, T_Dec, T_Enc, T_Mont, T_pDec, T_szA, T_szB]) (l := [s_same32.toP, s_sz64r.toP, s_Edw.toP, s_Dec.toP, s_Enc.toP, s_Mont.toP, sp_dec, s_z0.toP, s_z0.toP]) (W := W0)
    ⟨(good_same32 _).toP, (good_sz64r _).toP, (good_Edw _).toP, (good_Dec _).toP, (good_Enc _).toP, (good_Mont _).toP, good_pDec _, (good_z0 0).toP, (good_z0 1).toP, trivial⟩ (show 9 ≤ 1000000 by decide) Try.func5 Try.call5 (by kernel_rfl) rfl ?_
  intro xs hlen hx
  obtain ⟨hbx, hx⟩ : xs.take 32 = b ∧ nine (xs.getD 32 0) = false := hx
  refine ⟨_, _, _, _, r_FnDecodedC_0, w_FnDecodedC_0, ?_⟩
  intro ρ hin hst
  obtain ⟨e33, e34, e35, e36, e37, e38, e54, e88, e152, e153, e154, e186, e187, e219⟩ := E_FnDecodedC_0 hst
  clear hst
  have hl : xs.length = 33 := hlen
  have hs := seg_of (n := 33) hl hin
  have e0 : seg ρ 0 32 = b := by rw [← hbx, ← hs, seg_take _ (by decide)]
  have n0 : ρ 32 = xs.getD 32 0 := hin 32 (by decide)
  have e37 : (ρ 37 != 0) = nine (xs.getD 32 0) := by rw [e37, e36, e35, e34, e33, n0]; rfl
  rw [hx] at e37
  have e38 : seg ρ 38 16 = gets (s_Edw.f []) 0 16 := e38
  rw [Edw_val, gets_all (nF_len _)] at e38
  have e54 : seg ρ 54 34 = gets (f_Dec (seg ρ 38 16 ++ seg ρ 0 32)) 0 34 := e54
  rw [e38, e0, Dec_yes hb hp, gets_all (by rw [List.length_append, List.length_append, nF_len, nF_len]; rfl)] at e54
  obtain ⟨c1, c2⟩ := dec_split e38 e54
  have c2 : ρ 87 = 1 := c2
  have e88 : seg ρ 88 64 = gets (sp_dec.f (seg ρ 0 32)) 0 64 := e88
  have hf : sp_dec.f b = encB (xF (eF b) (sgB b)) (eF b) ++ bB ((1 + eF b) * inv (1 - eF b)) := rfl
  rw [e0, hf, gets_all (by rw [List.length_append, encB_len, bB_len])] at e88
  obtain ⟨d1, d2⟩ := seg_two (n := 32) (m := 32) e88 (encB_len _ _)
  have d2 : seg ρ 120 32 = bB ((1 + eF b) * inv (1 - eF b)) := d2
  rw [c2] at e152
  have e152 : ρ 152 = 1 := e152
  have e154 : seg ρ 154 32 = gets (f_Enc (seg ρ 38 49 ++ [0, 0, 0, 0, 0, 0, 0, 0, 0, 0, 0, 0, 0, 0, 0])) 0 32 := e154
  rw [c1, enc_1, gets_all (encB_len _ _)] at e154
  have e187 : seg ρ 187 32 = gets (s_Mont.f (seg ρ 38 49 ++ [0, 0, 0, 0, 0, 0, 0, 0, 0, 0, 0, 0, 0, 0, 0])) 0 32 := e187
  rw [c1, Mont_val (nF_in _), gets_all (bB_len _)] at e187
  have e186 : ρ 186 = (s_same32.f (seg ρ 88 32 ++ seg ρ 154 32)).getD 0 0 := e186
  rw [d1, e154] at e186
  have o1 := same_2 (encB_in _ _) rfl e186
  have e219 : ρ 219 = (s_same32.f (seg ρ 120 32 ++ seg ρ 187 32)).getD 0 0 := e219
  rw [d2, e187] at e219
  have o2 := same_2 (bB_in _) rfl e219
  exact ⟨one_outv o2, A_FnDecodedC_0 ⟨(by rw [d2, e187]; exact InB.append (bB_in _) (bB_in _)), (by rw [c1]; exact four_in _ _), (by rw [o1]; rfl), (by rw [d1, e154]; exact InB.append (encB_in _ _) (encB_in _ _)), (by rw [c1]; exact four_in _ _), (by rw [e152]; rfl), (by rw [e0]; exact ⟨hb, hp⟩), (by rw [e38, e0]; exact InB.append (a := WB 16) (b := BB 32) (nF_in _) hb), trivial, e37, trivial⟩⟩
end

section
variable {b : List Int}
def sp_D (b : List Int) : SemP := ⟨fun _ => [1], fun xs => xs.take 32 = b ∧ nine (xs.getD 32 0) = false⟩
theorem good_FnD (hb : InB (BB 32) b) (hp : ¬ isPt b) : GoodP W0 T_FnDecodedD (sp_D b) := by
  refine lawP_sound (ts := [T_same32, T_sz64r, T_Edw, T_Dec, T_Enc, T_Mont, T_pDecF, T_szA, T_szB]) (l := [s_same32.toP, s_sz64r.toP, s_Edw.toP, s_Dec.toP, s_Enc.toP, s_Mont.toP, sp_decF, s_z0.toP, s_z0.toP]) (W := W0)
    ⟨(good_same32 _).toP, (good_sz64r _).toP, (good_Edw _).toP, (good_Dec _).toP, (good_Enc _).toP, (good_Mont _).toP, good_pDecF _, (good_z0 0).toP, (good_z0 1).toP, trivial⟩ (show 9 ≤ 1000000 by decide) Try.func5 Try.call5 (by kernel_rfl) rfl ?_
  intro xs hlen hx
  obtain ⟨hbx, hx⟩ : xs.take 32 = b ∧ nine (xs.getD 32 0) = false := hx
  refine ⟨_, _, _, _, r_FnDecodedD_0, w_FnDecodedD_0, ?_⟩
  intro ρ hin hst
  obtain ⟨e33, e34, e35, e36, e37, e38, e54, e88, e89⟩ := E_FnDecodedD_0 hst
  clear hst
  have hl : xs.length = 33 := hlen
  have hs := seg_of (n := 33) hl hin
  have e0 : seg ρ 0 32 = b := by rw [← hbx, ← hs, seg_take _ (by decide)]
  have n0 : ρ 32 = xs.getD 32 0 := hin 32 (by decide)
  have e37 : (ρ 37 != 0) = nine (xs.getD 32 0) := by rw [e37, e36, e35, e34, e33, n0]; rfl
  rw [hx] at e37
  have e38 : seg ρ 38 16 = gets (s_Edw.f []) 0 16 := e38
  rw [Edw_val, gets_all (nF_len _)] at e38
  have e54 : seg ρ 54 34 = gets (f_Dec (seg ρ 38 16 ++ seg ρ 0 32)) 0 34 := e54
  rw [e38, e0, Dec_no hb hp, gets_all (List.length_replicate ..)] at e54
  have c2 : ρ 87 = 0 := dec_no e54
  rw [c2] at e89
  have e89 : ρ 89 = 1 := e89
  exact ⟨no_out, A_FnDecodedD_0 ⟨(by rw [e89]; rfl), (by rw [e0]; exact ⟨hb, hp⟩), (by rw [e38, e0]; exact InB.append (a := WB 16) (b := BB 32) (nF_in _) hb), trivial, e37, trivial⟩⟩
end

end Go.X.Y

namespace Go.X.Y
open Go.Proofs Go.RowKit

set_option maxHeartbeats 4000000 in
set_option maxRecDepth 100000 in
theorem c23 (a : Option Addr) (len cap : Nat) (h : len ≠ 32) (w : World) :
    Calls Try.prog 23 #[.slice a len cap] w fun e w' => e = .returned (.tuple #[.slice none 0 0, .slice none 0 0, .bool false]) ∧ Below w.heap.size w w' := by
  have h1 : ((len : Int) == 32) = false := by
    rw [beq_eq_false_iff_ne]; omega
  have h2 : ((len : Int) != 32) = true := by
    rw [bne_iff_ne]; omega
  go_enter Try.func23, Try.ntmps23
  go_wp2
  go_ret3
  exact ⟨rfl, by go_grown⟩

end Go.X.Y

set_option maxRecDepth 20000
namespace Go.X.Y
open Go.Proofs
def T_DecG : Tmpl := ⟨22, [.one (.agg (us .u32 0 16)), .one (.lf (.gho 0))], [], 16, 0, true, .tup [.agg [.int .u32 (.l 0), .int .u32 (.l 0), .int .u32 (.l 0), .int .u32 (.l 0), .int .u32 (.l 0), .int .u32 (.l 0), .int .u32 (.l 0), .int .u32 (.l 0), .int .u32 (.l 0), .int .u32 (.l 0), .int .u32 (.l 0), .int .u32 (.l 0), .int .u32 (.l 0), .int .u32 (.l 0), .int .u32 (.l 0), .int .u32 (.l 0), .int .u32 (.l 0), .int .u32 (.l 0), .int .u32 (.l 0), .int .u32 (.l 0), .int .u32 (.l 0), .int .u32 (.l 0), .int .u32 (.l 0), .int .u32 (.l 0), .int .u32 (.l 0), .int .u32 (.l 0), .int .u32 (.l 0), .int .u32 (.l 0), .int .u32 (.l 0), .int .u32 (.l 0), .int .u32 (.l 0), .int .u32 (.l 0), .int .u32 (.l 0), .int .u32 (.l 0), .int .u32 (.l 0), .int .u32 (.l 0), .int .u32 (.l 0), .int .u32 (.l 0), .int .u32 (.l 0), .int .u32 (.l 0), .int .u32 (.l 0), .int .u32 (.l 0), .int .u32 (.l 0), .int .u32 (.l 0), .int .u32 (.l 0), .int .u32 (.l 0), .int .u32 (.l 0), .int .u32 (.l 0)], .lf (.bool (.l 0))], [], []⟩
def g_DecG_0 : List (Nat × Ins) := [(17, .op2 .neq .i64 (.v 16) (.l 32)),
  (16, .app 1000000 [] 0)]
def p_DecG_0 : Out := ⟨.tup [.agg [.int .u32 (.l 0), .int .u32 (.l 0), .int .u32 (.l 0), .int .u32 (.l 0), .int .u32 (.l 0), .int .u32 (.l 0), .int .u32 (.l 0), .int .u32 (.l 0), .int .u32 (.l 0), .int .u32 (.l 0), .int .u32 (.l 0), .int .u32 (.l 0), .int .u32 (.l 0), .int .u32 (.l 0), .int .u32 (.l 0), .int .u32 (.l 0), .int .u32 (.l 0), .int .u32 (.l 0), .int .u32 (.l 0), .int .u32 (.l 0), .int .u32 (.l 0), .int .u32 (.l 0), .int .u32 (.l 0), .int .u32 (.l 0), .int .u32 (.l 0), .int .u32 (.l 0), .int .u32 (.l 0), .int .u32 (.l 0), .int .u32 (.l 0), .int .u32 (.l 0), .int .u32 (.l 0), .int .u32 (.l 0), .int .u32 (.l 0), .int .u32 (.l 0), .int .u32 (.l 0), .int .u32 (.l 0), .int .u32 (.l 0), .int .u32 (.l 0), .int .u32 (.l 0), .int .u32 (.l 0), .int .u32 (.l 0), .int .u32 (.l 0), .int .u32 (.l 0), .int .u32 (.l 0), .int .u32 (.l 0), .int .u32 (.l 0), .int .u32 (.l 0), .int .u32 (.l 0)], .lf (.bool (.l 0))], [(us .u32 0 16), [.int .u32 (.l 0), .int .u32 (.l 0), .int .u32 (.l 0), .int .u32 (.l 0), .int .u32 (.l 0), .int .u32 (.l 0), .int .u32 (.l 0), .int .u32 (.l 0), .int .u32 (.l 0), .int .u32 (.l 0), .int .u32 (.l 0), .int .u32 (.l 0), .int .u32 (.l 0), .int .u32 (.l 0), .int .u32 (.l 0), .int .u32 (.l 0), .int .u32 (.l 0), .int .u32 (.l 0), .int .u32 (.l 0), .int .u32 (.l 0), .int .u32 (.l 0), .int .u32 (.l 0), .int .u32 (.l 0), .int .u32 (.l 0), .int .u32 (.l 0), .int .u32 (.l 0), .int .u32 (.l 0), .int .u32 (.l 0), .int .u32 (.l 0), .int .u32 (.l 0), .int .u32 (.l 0), .int .u32 (.l 0), .int .u32 (.l 0), .int .u32 (.l 0), .int .u32 (.l 0), .int .u32 (.l 0), .int .u32 (.l 0), .int .u32 (.l 0), .int .u32 (.l 0), .int .u32 (.l 0), .int .u32 (.l 0), .int .u32 (.l 0), .int .u32 (.l 0), .int .u32 (.l 0), .int .u32 (.l 0), .int .u32 (.l 0), .int .u32 (.l 0), .int .u32 (.l 0)]], ⟨g_DecG_0, 18, [.cond (.v 17) true], [], [1]⟩⟩
theorem r_DecG_0 : runBody Try.prog [T_Of32, T_Of64, T_Small, T_Bit, T_Field, T_FAdd, T_FSub, T_FMul, T_FNeg, T_Ratio] [] Try.f22 200 T_DecG.args T_DecG.mem T_DecG.nin [true] = some p_DecG_0 := by kernel_rfl
def ft_DecG_0 : Fit := ⟨[], []⟩
theorem w_DecG_0 : (fitsB T_DecG p_DecG_0 ft_DecG_0 && wfS T_DecG.nin p_DecG_0.g.ssa p_DecG_0.g.n) = true := by kernel_rfl
theorem E_DecG_0 {F : Fns} {v : Nat → Int} (h : StHold F v (rawSt p_DecG_0.g.ssa)) : (v 16 = (F 1000000 []).getD 0 0) ∧ (v 17 = op2 .neq .i64 (v 16) 32) := Eq.mp (by kernel_rfl) h
theorem A_DecG_0 {pr : Prs} {v : Nat → Int} (h : ((v 17 != 0) = true) ∧ True) : HoldL pr v p_DecG_0.g.asm := Eq.mp (by kernel_rfl) h

end Go.X.Y

set_option maxRecDepth 20000
namespace Go.X.Y
open Go.Proofs Go.RowKit

/-! ### a slice of another length -/

theorem all2_ints {E : Env} {σ : Plc} : ∀ {l : List Int} {k : IntKind} {cs : List L} {vs : List Value}, All2 (L.Den E σ) cs vs → cs.length = l.length → (∀ i c, cs[i]? = some c → ∃ a, c = .int k a ∧ a.ev E.ρ = l.getD i 0) → vs = l.map (Value.int k)
  | [], _, _, _, .nil, _, _ => rfl
  | n :: l, k, _, _, .cons (a := c) (b := v) h t, hl, hc => by
    obtain ⟨a, e1, e2⟩ := hc 0 c rfl
    rw [e1] at h
    have h : v = .int k (a.ev E.ρ) := h
    have ih := all2_ints (l := l) (k := k) t (by simpa using hl) (fun i c hi => by
      obtain ⟨a, e1, e2⟩ := hc (i + 1) c (by simpa using hi)
      exact ⟨a, e1, by rw [e2]; rfl⟩)
    rw [ih, h, e2]; rfl
  | [], _, _, _, .cons _ _, hl, _ => by simp at hl
  | _ :: _, _, _, _, .nil, hl, _ => by simp at hl

def Wn (w : World) : World0 Try.prog := W2 none 0 0 none 0 0 w

/-- the curve's number, as a value -/
def dVal : Value := .agg ⟨(nF dF).map (Value.int .u32)⟩

theorem us_get {k : IntKind} : ∀ {n x i : Nat} {c : L}, (us k x n)[i]? = some c → i < n ∧ c = .int k (.v (x + i))
  | 0, _, _, _, h => by simp [us] at h
  | n + 1, x, 0, c, h => by simp [us] at h; exact ⟨by omega, h.symm⟩
  | n + 1, x, i + 1, c, h => by
    have h : (us k (x + 1) n)[i]? = some c := by simpa [us] using h
    obtain ⟨h1, h2⟩ := us_get h
    exact ⟨by omega, by rw [h2]; congr 2; omega⟩

theorem c21 (w : World) : Calls Try.prog 21 #[] w fun e w' => e = .returned dVal ∧ Below w.heap.size w w' := by
  have key := good_Edw (Wn w) (fun _ => s_Edw.f) (fun _ => InB s_Edw.bi) 0 rfl rfl ⟨fun x => (nF dF).getD x 0, gv2 none 0 0 none 0 0⟩ (fun _ => none) w [] ?_
  · have key : Invokes Try.prog 21 #[] w _ := key
    unfold Invokes at key
    rw [Try.call21] at key
    refine Calls.mono key fun e w' ⟨v, σ', he, hp⟩ => ⟨?_, ?_⟩
    · obtain ⟨vs, hv, ha⟩ := hp.den
      have hvs : vs = (nF dF).map (Value.int .u32) := all2_ints ha (by rw [nF_len]; rfl) (fun i c hi => by
        have hi : (us .u32 0 16)[i]? = some c := hi
        obtain ⟨h1, h2⟩ := us_get hi
        exact ⟨_, h2, by show (nF dF).getD (0 + i) 0 = _; rw [Nat.zero_add]⟩)
      rw [he, hv, hvs]; rfl
    · have hno : ∀ b o, ¬ UpdAt (fun _ => none) T_Edw b o := by
        rintro b o ⟨r, p, cs, _, h, _⟩
        cases h
      exact ⟨hp.ev.os, hp.ev.tape, hp.ev.output, hp.ev.size, fun b hb => hp.ev.block b hb (hno b)⟩
  · refine ⟨rfl, fun _ _ => rfl, Nat.le_refl _, ?_, fun _ => trivial, fun _ _ => rfl, ⟨?_, ?_, ?_, ?_⟩, .nil⟩
    · intro j hj
      show (nF dF).getD (0 + j) 0 = (s_Edw.f []).getD j 0
      rw [Edw_val, Nat.zero_add]
    · intro r p cs h; cases h
    · intro r r' p p' cs cs' _ h; cases h
    · intro r p h; cases h
    · intro r p h; cases h

def sp_DecG (len : Nat) : SemP := ⟨fun _ => [], fun _ => len ≠ 32⟩

theorem good_DecG {a : Option Addr} {len cap : Nat} {w : World} : GoodP (W2 a len cap none 0 0 w) T_DecG (sp_DecG len) := by
  refine lawP_sound (ts := [T_Of32, T_Of64, T_Small, T_Bit, T_Field, T_FAdd, T_FSub, T_FMul, T_FNeg, T_Ratio]) (l := [s_Of32.toP, s_Of64.toP, s_Small.toP, s_Bit.toP, s_Field.toP, s_FAdd.toP, s_FSub.toP, s_FMul.toP, s_FNeg.toP, s_Ratio.toP]) (W := W2 a len cap none 0 0 w)
    ⟨(good_Of32 _).toP, (good_Of64 _).toP, (good_Small _).toP, (good_Bit _).toP, (good_Field _).toP, (good_FAdd _).toP, (good_FSub _).toP, (good_FMul _).toP, (good_FNeg _).toP, (good_Ratio _).toP, trivial⟩ (show 10 ≤ 1000000 by decide) Try.func22 Try.call22 (by kernel_rfl) rfl ?_
  intro xs _ hx
  have hx : len ≠ 32 := hx
  refine ⟨_, _, _, _, r_DecG_0, w_DecG_0, ?_⟩
  intro ρ _ hst
  obtain ⟨e16, e17⟩ := E_DecG_0 hst
  have e16 : ρ 16 = (len : Int) := e16
  rw [e16, neq_i, if_neg (by omega)] at e17
  exact ⟨no_out, A_DecG_0 ⟨by rw [e17]; rfl, trivial⟩⟩

def z48 : List Value := List.replicate 48 (.int .u32 0)

theorem c22 (a : Option Addr) (len cap : Nat) (h : len ≠ 32) (w : World) :
    Calls Try.prog 22 #[dVal, .slice a len cap] w fun e w' => e = .returned (.tuple #[.agg ⟨z48⟩, .bool false]) ∧ Below w.heap.size w w' := by
  have key := good_DecG (a := a) (len := len) (cap := cap) (w := w) (fun _ => (sp_DecG len).f) (fun _ => (sp_DecG len).pre) 0 rfl rfl ⟨fun x => (nF dF).getD x 0, gv2 a len cap none 0 0⟩ (fun _ => none) w [dVal, .slice a len cap] ?_
  · have key : Invokes Try.prog 22 #[dVal, .slice a len cap] w _ := key
    unfold Invokes at key
    rw [Try.call22] at key
    refine Calls.mono key fun e w' ⟨v, σ', he, hp⟩ => ⟨?_, ?_⟩
    · obtain ⟨us, hv, ha⟩ := hp.den
      cases ha with
      | @cons _ v1 _ _ h1 t1 =>
        cases t1 with
        | @cons _ v2 _ _ h2 t2 =>
          cases t2
          obtain ⟨vs, hv1, ha1⟩ := h1
          have h2 : v2 = .bool false := h2
          have hvs : vs = (List.replicate 48 (0 : Int)).map (Value.int .u32) := all2_ints ha1 rfl (fun i c hi => by
            have hi : (List.replicate 48 (L.int .u32 (.l 0)))[i]? = some c := hi
            obtain ⟨h1, h2⟩ := List.getElem?_eq_some_iff.1 hi
            rw [List.getElem_replicate] at h2
            refine ⟨.l 0, h2.symm, ?_⟩
            show (0 : Int) = _
            rw [List.getD_eq_getElem?_getD, List.getElem?_replicate]
            split <;> rfl)
          rw [he, hv, hv1, hvs, h2]; rfl
    · have hno : ∀ b o, ¬ UpdAt (fun _ => none) T_DecG b o := by
        rintro b o ⟨r, p, cs, _, h, _⟩
        cases h
      exact ⟨hp.ev.os, hp.ev.tape, hp.ev.output, hp.ev.size, fun b hb => hp.ev.block b hb (hno b)⟩
  · refine ⟨rfl, fun _ _ => rfl, Nat.le_refl _, ?_, fun _ => h, fun _ _ => rfl, ⟨?_, ?_, ?_, ?_⟩, .cons ⟨_, rfl, ?_⟩ (.cons rfl .nil)⟩
    · intro j hj
      exact absurd hj (Nat.not_lt_zero j)
    · intro r p cs h; cases h
    · intro r r' p p' cs cs' _ h; cases h
    · intro r p h; cases h
    · intro r p h; cases h
    · refine All2.of_get (by rw [List.length_map, nF_len]; rfl) ?_
      intro i c v hi hv
      have hi : (us .u32 0 16)[i]? = some c := hi
      obtain ⟨h1, h2⟩ := us_get hi
      rw [h2]
      show v = .int .u32 ((nF dF).getD (0 + i) 0)
      rw [List.getElem?_map, List.getElem?_eq_getElem (by rw [nF_len]; exact h1)] at hv
      rw [Nat.zero_add, List.getD_eq_getElem?_getD, List.getElem?_eq_getElem (by rw [nF_len]; exact h1)]
      simpa using hv.symm

end Go.X.Y

set_option maxRecDepth 20000
namespace Go.X.Y
open Go.Proofs Go.RowKit

/-- the number that the law looks at -/
def mx (n : Int) : Int := if wrap64 (-wrap64 (n + 1)) > n then wrap64 (-wrap64 (n + 1)) else n

theorem w64 (n : Int) : IntKind.wrap .i64 n = wrap64 n := by
  rw [IntKind.wrap_i64]; unfold wrap64; omega

theorem nine_mx (n : Int) : nine n = (op2 .neq .i64 (op2 .rem .i64 (mx n) 9) 0 != 0) := by
  unfold nine mx
  have e : op2 .sub .i64 0 (op2 .add .i64 n 1) = wrap64 (-wrap64 (n + 1)) := by
    show IntKind.wrap .i64 (0 - IntKind.wrap .i64 (n + 1)) = _
    rw [Int.zero_sub, w64, w64]
  rw [e]

theorem nine_rem {n : Int} (h : nine n = false) : op2 .rem .i64 (mx n) 9 = 0 := by
  rw [nine_mx, neq_i] at h
  by_cases h0 : op2 .rem .i64 (mx n) 9 = 0
  · exact h0
  · rw [if_neg h0] at h; cases h

theorem rem_9 (m : Int) : op2 .rem .i64 m 9 = m.tmod 9 := by
  show _ = _
  rfl

theorem nine_form {n : Int} (h : nine n = false) : ((if n < wrap64 (-wrap64 (n + 1)) then wrap64 (-wrap64 (n + 1)) else n).tmod 9 != 0) = false := by
  have h0 := nine_rem h
  rw [rem_9] at h0
  have e : (if n < wrap64 (-wrap64 (n + 1)) then wrap64 (-wrap64 (n + 1)) else n) = mx n := rfl
  rw [e, h0]; rfl

theorem dVal_eq : ∃ d0 d1 d2 d3 d4 d5 d6 d7 d8 d9 d10 d11 d12 d13 d14 d15 : Int, dVal = .agg #[.int .u32 d0, .int .u32 d1, .int .u32 d2, .int .u32 d3, .int .u32 d4, .int .u32 d5, .int .u32 d6, .int .u32 d7, .int .u32 d8, .int .u32 d9, .int .u32 d10, .int .u32 d11, .int .u32 d12, .int .u32 d13, .int .u32 d14, .int .u32 d15] := by
  have key : ∀ l : List Int, l.length = 16 → ∃ d0 d1 d2 d3 d4 d5 d6 d7 d8 d9 d10 d11 d12 d13 d14 d15 : Int, Value.agg ⟨l.map (Value.int .u32)⟩ = .agg #[.int .u32 d0, .int .u32 d1, .int .u32 d2, .int .u32 d3, .int .u32 d4, .int .u32 d5, .int .u32 d6, .int .u32 d7, .int .u32 d8, .int .u32 d9, .int .u32 d10, .int .u32 d11, .int .u32 d12, .int .u32 d13, .int .u32 d14, .int .u32 d15] := by
    intro l hl
    match l, hl with
    | [d0, d1, d2, d3, d4, d5, d6, d7, d8, d9, d10, d11, d12, d13, d14, d15], _ => exact ⟨d0, d1, d2, d3, d4, d5, d6, d7, d8, d9, d10, d11, d12, d13, d14, d15, rfl⟩
  exact key (nF dF) (nF_len _)

theorem set_new (W : World) (z d : Array Value) (t : TypeId) : (W.alloc (.cells z t)).setRow W.heap.size d = W.alloc (.cells d t) := by
  unfold World.setRow World.alloc
  congr 1
  apply Array.ext
  · simp
  · intro k h1 h2
    simp only [Array.getElem_modify, Array.getElem_push]
    split
    · rename_i h; subst h; simp
    · rename_i h
      have h3 : k < W.heap.size := by simp at h1; omega
      rw [dif_pos h3, dif_pos h3]

theorem st_new (W : World) (t : TypeId) (z d : Array Value) (hs : d.size = z.size) (h1 : ∀ v ∈ d.toList, v.oneCell' = true) :
    (storeCells ⟨W.heap.size, 0, none⟩ d.toList).run Try.prog (W.alloc (.cells z t)) = .ok () (W.alloc (.cells d t)) := by
  have h := run_storeCells_at Try.prog W.heap.size 0 t d.toList 0 z (W.alloc (.cells z t)) (heap_alloc_new W _) (by rw [Array.length_toList]; omega) h1
  rw [h]
  congr 1
  have e : (z.toList.take (0 + 0) ++ d.toList ++ z.toList.drop (0 + 0 + d.toList.length)).toArray = d := by
    rw [List.drop_of_length_le (by rw [Array.length_toList, Array.length_toList]; omega)]
    simp
  rw [e]
  exact set_new W z d t

theorem hd45 (d0 d1 d2 d3 d4 d5 d6 d7 d8 d9 d10 d11 d12 d13 d14 d15 : Int) (W : World) : (storeCells ⟨W.heap.size, 0, none⟩ [.int .u32 d0, .int .u32 d1, .int .u32 d2, .int .u32 d3, .int .u32 d4, .int .u32 d5, .int .u32 d6, .int .u32 d7, .int .u32 d8, .int .u32 d9, .int .u32 d10, .int .u32 d11, .int .u32 d12, .int .u32 d13, .int .u32 d14, .int .u32 d15]).run Try.prog (W.alloc (.cells #[.int .u32 0, .int .u32 0, .int .u32 0, .int .u32 0, .int .u32 0, .int .u32 0, .int .u32 0, .int .u32 0, .int .u32 0, .int .u32 0, .int .u32 0, .int .u32 0, .int .u32 0, .int .u32 0, .int .u32 0, .int .u32 0] 45)) = .ok () (W.alloc (.cells #[.int .u32 d0, .int .u32 d1, .int .u32 d2, .int .u32 d3, .int .u32 d4, .int .u32 d5, .int .u32 d6, .int .u32 d7, .int .u32 d8, .int .u32 d9, .int .u32 d10, .int .u32 d11, .int .u32 d12, .int .u32 d13, .int .u32 d14, .int .u32 d15] 45)) :=
  st_new W 45 #[.int .u32 0, .int .u32 0, .int .u32 0, .int .u32 0, .int .u32 0, .int .u32 0, .int .u32 0, .int .u32 0, .int .u32 0, .int .u32 0, .int .u32 0, .int .u32 0, .int .u32 0, .int .u32 0, .int .u32 0, .int .u32 0] #[.int .u32 d0, .int .u32 d1, .int .u32 d2, .int .u32 d3, .int .u32 d4, .int .u32 d5, .int .u32 d6, .int .u32 d7, .int .u32 d8, .int .u32 d9, .int .u32 d10, .int .u32 d11, .int .u32 d12, .int .u32 d13, .int .u32 d14, .int .u32 d15] rfl (by intro v hv; simp at hv; rcases hv with rfl | rfl | rfl | rfl | rfl | rfl | rfl | rfl | rfl | rfl | rfl | rfl | rfl | rfl | rfl | rfl <;> rfl)

theorem hZ48 (W : World) : (storeCells ⟨W.heap.size, 0, none⟩ z48).run Try.prog (W.alloc (.cells #[.int .u32 0, .int .u32 0, .int .u32 0, .int .u32 0, .int .u32 0, .int .u32 0, .int .u32 0, .int .u32 0, .int .u32 0, .int .u32 0, .int .u32 0, .int .u32 0, .int .u32 0, .int .u32 0, .int .u32 0, .int .u32 0, .int .u32 0, .int .u32 0, .int .u32 0, .int .u32 0, .int .u32 0, .int .u32 0, .int .u32 0, .int .u32 0, .int .u32 0, .int .u32 0, .int .u32 0, .int .u32 0, .int .u32 0, .int .u32 0, .int .u32 0, .int .u32 0, .int .u32 0, .int .u32 0, .int .u32 0, .int .u32 0, .int .u32 0, .int .u32 0, .int .u32 0, .int .u32 0, .int .u32 0, .int .u32 0, .int .u32 0, .int .u32 0, .int .u32 0, .int .u32 0, .int .u32 0, .int .u32 0] 48)) = .ok () (W.alloc (.cells ⟨z48⟩ 48)) :=
  st_new W 48 #[.int .u32 0, .int .u32 0, .int .u32 0, .int .u32 0, .int .u32 0, .int .u32 0, .int .u32 0, .int .u32 0, .int .u32 0, .int .u32 0, .int .u32 0, .int .u32 0, .int .u32 0, .int .u32 0, .int .u32 0, .int .u32 0, .int .u32 0, .int .u32 0, .int .u32 0, .int .u32 0, .int .u32 0, .int .u32 0, .int .u32 0, .int .u32 0, .int .u32 0, .int .u32 0, .int .u32 0, .int .u32 0, .int .u32 0, .int .u32 0, .int .u32 0, .int .u32 0, .int .u32 0, .int .u32 0, .int .u32 0, .int .u32 0, .int .u32 0, .int .u32 0, .int .u32 0, .int .u32 0, .int .u32 0, .int .u32 0, .int .u32 0, .int .u32 0, .int .u32 0, .int .u32 0, .int .u32 0, .int .u32 0] ⟨z48⟩ rfl (by intro v hv; have hv : v ∈ z48 := hv; rw [List.eq_of_mem_replicate hv]; rfl)

theorem chain3 {w w1 w2 w3 : World} {o o' : Obj} (h1 : Below w.heap.size w w1) (h2 : Below (w1.alloc o).heap.size (w1.alloc o) w2) (h3 : Below (w2.alloc o').heap.size (w2.alloc o') w3) : Below w.heap.size w w3 := by
  have s1 := h1.size
  have s2 := h2.size
  have e1 : (w1.alloc o).heap.size = w1.heap.size + 1 := by simp
  have e2 : (w2.alloc o').heap.size = w2.heap.size + 1 := by simp
  have a1 : ∀ k, k < w1.heap.size → (w1.alloc o).heap[k]? = w1.heap[k]? := fun k hk => (Ev.alloc w1 (fun _ _ => False) o).block k hk (fun _ h => h)
  have a2 : ∀ k, k < w2.heap.size → (w2.alloc o').heap[k]? = w2.heap[k]? := fun k hk => (Ev.alloc w2 (fun _ _ => False) o').block k hk (fun _ h => h)
  refine ⟨h3.os.trans (h2.os.trans h1.os), h3.tape.trans (h2.tape.trans h1.tape), h3.output.trans (h2.output.trans h1.output), ?_, ?_⟩
  · have := h3.size; omega
  · intro k hk
    rw [h3.block k (by omega), a2 k (by omega), h2.block k (by omega), a1 k (by omega), h1.block k hk]

set_option maxHeartbeats 4000000 in
set_option maxRecDepth 100000 in
theorem c5a (a : Option Addr) (len cap : Nat) (n : Int) (hl : len ≤ 100) (h : len ≠ 32) (hc : len ≤ cap) (h9 : nine n = false) (w : World) :
    Calls Try.prog 5 #[.slice a len cap, .int .i64 n] w fun e w' => e = .returned (.bool true) ∧ Below w.heap.size w w' := by
  have h1 : decide ((len : Int) > 2147483647) = false := decide_eq_false (by omega)
  have h5 : ¬ ((100 : Int) < len) := by omega
  have h3 := nine_form h9
  obtain ⟨d0, d1, d2, d3, d4, d5, d6, d7, d8, d9, d10, d11, d12, d13, d14, d15, hd⟩ := dVal_eq
  have k21 := c21
  have k22 := fun w => c22 a len cap h w
  rw [hd] at k21 k22
  have k23 := fun w => c23 a len cap h w
  have hs1 := hd45 d0 d1 d2 d3 d4 d5 d6 d7 d8 d9 d10 d11 d12 d13 d14 d15
  have hs2 := hZ48
  obtain ⟨Z, hZ⟩ : ∃ Z : Array Value, Z = ⟨z48⟩ := ⟨_, rfl⟩
  have hZl : z48 = Z.toList := by rw [hZ]
  rw [hZl] at hs2
  have hs2 : ∀ W : World, (storeCells ⟨W.heap.size, 0, none⟩ Z.toList).run Try.prog (W.alloc (.cells #[.int .u32 0, .int .u32 0, .int .u32 0, .int .u32 0, .int .u32 0, .int .u32 0, .int .u32 0, .int .u32 0, .int .u32 0, .int .u32 0, .int .u32 0, .int .u32 0, .int .u32 0, .int .u32 0, .int .u32 0, .int .u32 0, .int .u32 0, .int .u32 0, .int .u32 0, .int .u32 0, .int .u32 0, .int .u32 0, .int .u32 0, .int .u32 0, .int .u32 0, .int .u32 0, .int .u32 0, .int .u32 0, .int .u32 0, .int .u32 0, .int .u32 0, .int .u32 0, .int .u32 0, .int .u32 0, .int .u32 0, .int .u32 0, .int .u32 0, .int .u32 0, .int .u32 0, .int .u32 0, .int .u32 0, .int .u32 0, .int .u32 0, .int .u32 0, .int .u32 0, .int .u32 0, .int .u32 0, .int .u32 0] 48)) = .ok () (W.alloc (.cells Z 48)) := hs2
  have k22 : ∀ w, Calls Try.prog 22 #[.agg #[.int .u32 d0, .int .u32 d1, .int .u32 d2, .int .u32 d3, .int .u32 d4, .int .u32 d5, .int .u32 d6, .int .u32 d7, .int .u32 d8, .int .u32 d9, .int .u32 d10, .int .u32 d11, .int .u32 d12, .int .u32 d13, .int .u32 d14, .int .u32 d15], .slice a len cap] w fun e w' => e = .returned (.tuple #[.agg Z, .bool false]) ∧ Below w.heap.size w w' := by rw [hZ]; exact k22
  have hZs : Z.size = 48 := by rw [hZ]; rfl
  clear hZ hZl
  by_cases hm : n < wrap64 (-wrap64 (n + 1))
  · have h4 : ((wrap64 (-wrap64 (n + 1))).tmod 9 != 0) = false := by rw [if_pos hm] at h3; exact h3
    go_enter Try.func5, Try.ntmps5
    go_wp2_with fail
    go_call k21 as e w1 ⟨he, hb⟩
    subst he
    go_wp2_with fail
    go_call k22 as e w2 ⟨he, hb2⟩
    subst he
    go_wp2_with fail
    go_call k23 as e w3 ⟨he, hb3⟩
    subst he
    go_wp2
    go_ret
    exact ⟨rfl, chain3 hb hb2 hb3⟩
  · have h4 : (n.tmod 9 != 0) = false := by rw [if_neg hm] at h3; exact h3
    go_enter Try.func5, Try.ntmps5
    go_wp2_with fail
    go_call k21 as e w1 ⟨he, hb⟩
    subst he
    go_wp2_with fail
    go_call k22 as e w2 ⟨he, hb2⟩
    subst he
    go_wp2_with fail
    go_call k23 as e w3 ⟨he, hb3⟩
    subst he
    go_wp2
    go_ret
    exact ⟨rfl, chain3 hb hb2 hb3⟩

end Go.X.Y

set_option maxRecDepth 20000
namespace Go.X.Y
open Go.Proofs Go.RowKit

set_option maxHeartbeats 4000000 in
set_option maxRecDepth 100000 in
theorem c5b (a : Option Addr) (len cap : Nat) (n : Int) (hl : 100 < len) (hmost : len ≤ 2147483647) (hc : len ≤ cap) (h9 : nine n = false) (w : World) :
    Calls Try.prog 5 #[.slice a len cap, .int .i64 n] w fun e w' => e = .returned (.bool true) ∧ Below w.heap.size w w' := by
  have h1 : decide ((len : Int) > 2147483647) = false := decide_eq_false (by omega)
  have h5 : (100 : Int) < len := by omega
  have h3 := nine_form h9
  obtain ⟨d0, d1, d2, d3, d4, d5, d6, d7, d8, d9, d10, d11, d12, d13, d14, d15, hd⟩ := dVal_eq
  have k21 := c21
  have k22 := fun w => c22 a 100 cap (by decide) w
  rw [hd] at k21 k22
  have k23 := fun w => c23 a 100 cap (by decide) w
  have hs1 := hd45 d0 d1 d2 d3 d4 d5 d6 d7 d8 d9 d10 d11 d12 d13 d14 d15
  have hs2 := hZ48
  obtain ⟨Z, hZ⟩ : ∃ Z : Array Value, Z = ⟨z48⟩ := ⟨_, rfl⟩
  have hZl : z48 = Z.toList := by rw [hZ]
  rw [hZl] at hs2
  have hs2 : ∀ W : World, (storeCells ⟨W.heap.size, 0, none⟩ Z.toList).run Try.prog (W.alloc (.cells #[.int .u32 0, .int .u32 0, .int .u32 0, .int .u32 0, .int .u32 0, .int .u32 0, .int .u32 0, .int .u32 0, .int .u32 0, .int .u32 0, .int .u32 0, .int .u32 0, .int .u32 0, .int .u32 0, .int .u32 0, .int .u32 0, .int .u32 0, .int .u32 0, .int .u32 0, .int .u32 0, .int .u32 0, .int .u32 0, .int .u32 0, .int .u32 0, .int .u32 0, .int .u32 0, .int .u32 0, .int .u32 0, .int .u32 0, .int .u32 0, .int .u32 0, .int .u32 0, .int .u32 0, .int .u32 0, .int .u32 0, .int .u32 0, .int .u32 0, .int .u32 0, .int .u32 0, .int .u32 0, .int .u32 0, .int .u32 0, .int .u32 0, .int .u32 0, .int .u32 0, .int .u32 0, .int .u32 0, .int .u32 0] 48)) = .ok () (W.alloc (.cells Z 48)) := hs2
  have k22 : ∀ w, Calls Try.prog 22 #[.agg #[.int .u32 d0, .int .u32 d1, .int .u32 d2, .int .u32 d3, .int .u32 d4, .int .u32 d5, .int .u32 d6, .int .u32 d7, .int .u32 d8, .int .u32 d9, .int .u32 d10, .int .u32 d11, .int .u32 d12, .int .u32 d13, .int .u32 d14, .int .u32 d15], .slice a 100 cap] w fun e w' => e = .returned (.tuple #[.agg Z, .bool false]) ∧ Below w.heap.size w w' := by rw [hZ]; exact k22
  have hZs : Z.size = 48 := by rw [hZ]; rfl
  clear hZ hZl
  by_cases hm : n < wrap64 (-wrap64 (n + 1))
  · have h4 : ((wrap64 (-wrap64 (n + 1))).tmod 9 != 0) = false := by rw [if_pos hm] at h3; exact h3
    go_enter Try.func5, Try.ntmps5
    go_wp2_with fail
    go_call k21 as e w1 ⟨he, hb⟩
    subst he
    go_wp2_with fail
    go_call k22 as e w2 ⟨he, hb2⟩
    subst he
    go_wp2_with fail
    go_call k23 as e w3 ⟨he, hb3⟩
    subst he
    go_wp2
    go_ret
    exact ⟨rfl, chain3 hb hb2 hb3⟩
  · have h4 : (n.tmod 9 != 0) = false := by rw [if_neg hm] at h3; exact h3
    go_enter Try.func5, Try.ntmps5
    go_wp2_with fail
    go_call k21 as e w1 ⟨he, hb⟩
    subst he
    go_wp2_with fail
    go_call k22 as e w2 ⟨he, hb2⟩
    subst he
    go_wp2_with fail
    go_call k23 as e w3 ⟨he, hb3⟩
    subst he
    go_wp2
    go_ret
    exact ⟨rfl, chain3 hb hb2 hb3⟩

set_option maxHeartbeats 4000000 in
set_option maxRecDepth 100000 in
theorem c5c (a : Option Addr) (len cap : Nat) (n : Int) (hl : 2147483647 < len) (w : World) :
    Calls Try.prog 5 #[.slice a len cap, .int .i64 n] w fun e w' => e = .returned (.bool true) ∧ Below w.heap.size w w' := by
  have h1 : decide ((len : Int) > 2147483647) = true := decide_eq_true (by omega)
  go_enter Try.func5, Try.ntmps5
  go_wp2
  go_ret
  exact ⟨rfl, Below.refl _ _⟩

end Go.X.Y
