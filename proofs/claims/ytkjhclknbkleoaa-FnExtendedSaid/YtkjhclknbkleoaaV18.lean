/-
  A part of the proof of Ytkjhclknbkleoaa: texts S1, S2, L1, L2. No conditions.
-/
import Derived.Test.YtkjhclknbkleoaaV17
import Derived.KernelRfl
import Derived.WalkKit
import Derived.OwnWalk
import Derived.Laws.MakeOwn
import Derived.Laws.OwnMore
import Derived.Laws.CopyRow
import Derived.Test.YtkjhclknbkleoaaProg
namespace Go.X.Y
open Go.Proofs Go.RowKit

/-- the bytes of a slice that came in -/
def Row8 (w : World) (a : Option Addr) (len : Nat) (zs : List Int) : Prop :=
  (a = none ∧ len = 0) ∨
  ∃ x, a = some x ∧ len ≤ zs.length ∧ (∀ i, i < zs.length → w.cell? (x.add i) = some (.int .u8 (zs.getD i 0)))

/-- the first bytes, with noughts behind -/
def pad (n len : Nat) (zs : List Int) : List Int := (zs.take (min len n)) ++ List.replicate (n - min len n) 0

theorem block_addr (a : Addr) (i : Nat) : (a.add i).block = a.block := by unfold Addr.add; split <;> rfl

theorem info5 : (Try.prog.info? 5).map (fun i => (i.zero, i.size, i.bytes)) = some (some (.int .u8 0), 1, 1) := by kernel_rfl

set_option maxHeartbeats 4000000 in
set_option maxRecDepth 100000 in
theorem sized_calls (n : Nat) (hn : n ≤ 100) (a : Option Addr) (len cap : Nat) (zs : List Int) (w : World) (hr : Row8 w a len zs) (hc : a = none → cap = 0) (hb : ∀ x, a = some x → len ≠ 0 → x.block < w.heap.size) :
    Calls Try.prog 8 #[.slice a len cap, .int .i64 n] w fun e w' => e = .returned (.slice (some ⟨w.heap.size, 0, none⟩) n n) ∧
      ∃ Y : Array Value, Y.toList = (pad n len zs).map (Value.int .u8) ∧ w' = (w.alloc (.cells (madeCells #[.int .u8 0] n) 5)).setRow w.heap.size Y := by
  obtain ⟨i0, hi, hz0, hz1, hz2⟩ := info_parts info5
  have hinfo : (Try.prog.info? 5).map (·.size) = some 1 := by rw [hi]; simp [hz1]
  obtain ⟨M, hM⟩ : ∃ M, M = madeCells #[Value.int .u8 0] n := ⟨_, rfl⟩
  have hMl : M.toList = List.replicate n (.int .u8 0) := by rw [hM]; exact toList_madeCells_one _ _
  have hMs : M.size = n := by rw [hM, size_madeCells]
  have hmk : ∀ W : World, (Instr.makeSlice 22 (.int .i64 (n : Int)) (.int .i64 (n : Int))).run Try.prog W = .ok (.slice (some ⟨W.heap.size, 0, none⟩) n n) (W.alloc (.cells M 5)) := fun W => by
    have h := run_make (P := Try.prog) W 22 5 i0 (.int .u8 0) Try.underlying22 hi hz0 .i64 .i64 (n : Int) (n : Int) (by omega) (by omega) (by rw [hz2]; omega) (by omega)
    rw [hz1] at h
    have e : madeCells (Value.int .u8 0).cells ((n : Int).toNat * 1) = M := by rw [hM]; simp [Value.cells]
    rw [e] at h
    simpa using h
  rw [← hM]
  clear hM
  have hself : (w.alloc (.cells M 5)).setRow w.heap.size M = w.alloc (.cells M 5) := setRow_self _ _ _ 5 (0, 0) (heap_alloc_new w _)
  rcases hr with ⟨rfl, rfl⟩ | ⟨x, rfl, hl, hcell⟩
  · obtain rfl := hc rfl
    have hcp := run_copy_nil (P := Try.prog) (w.alloc (.cells M 5)) 22 22 3 5 ⟨w.heap.size, 0, none⟩ n n Try.underlying22 (by rw [hinfo]; rfl)
    go_enter Try.func8, Try.ntmps8
    go_wp2
    go_ret
    refine ⟨rfl, M, ?_, hself.symm⟩
    rw [hMl]
    simp [pad]
  · have hlen : (((zs.take (min len n)).map (Value.int .u8))).length = Nat.min len n := by
      rw [List.length_map, List.length_take]; show min (min len n) zs.length = min len n; omega
    have hcp := run_copy_row (P := Try.prog) (w.alloc (.cells M 5)) 22 22 3 5 w.heap.size 0 n n x len cap M 5 ((zs.take (min len n)).map (Value.int .u8)) Try.underlying22 hinfo (heap_alloc_new w _) hlen
      (by
        intro j v hj
        rw [List.getElem?_map, List.getElem?_take] at hj
        by_cases hjl : j < min len n
        · rw [if_pos hjl] at hj
          have hjz : j < zs.length := by omega
          rw [List.getElem?_eq_getElem hjz] at hj
          have hc1 := hcell j hjz
          rw [List.getD_eq_getElem?_getD, List.getElem?_eq_getElem hjz] at hc1
          have hxb := hb x rfl (by omega)
          have : (w.alloc (.cells M 5)).cell? (x.add j) = w.cell? (x.add j) := World.cell?_alloc_lt w _ (x.add j) (by rw [block_addr]; exact hxb)
          rw [this, hc1]
          exact hj
        · rw [if_neg hjl] at hj; simp at hj)
      (by rw [hlen, hMs, Nat.zero_add]; exact Nat.min_le_right _ _)
      (by
        intro v hv
        obtain ⟨m, -, rfl⟩ := List.mem_map.1 hv
        rfl)
    obtain ⟨Y, hY⟩ : ∃ Y, Y = (M.toList.take 0 ++ (zs.take (min len n)).map (Value.int .u8) ++ M.toList.drop (0 + ((zs.take (min len n)).map (Value.int .u8)).length)).toArray := ⟨_, rfl⟩
    rw [← hY] at hcp
    have hYl : Y.toList = (pad n len zs).map (Value.int .u8) := by
      rw [hY, List.toList_toArray, List.take_zero, List.nil_append, Nat.zero_add, hlen, hMl, List.drop_replicate]
      unfold pad
      rw [List.map_append, List.map_replicate]
    clear hY
    go_enter Try.func8, Try.ntmps8
    go_wp2
    go_ret
    exact ⟨rfl, Y, hYl, rfl⟩

end Go.X.Y

namespace Go.X.Y
open Go.Proofs Go.RowKit

def T_sz (k n : Nat) : Tmpl := ⟨8, [.one (.lf (.gho k)), .one (.lf (.int .i64 (.l n)))], [], 0, n, true, .one (.lf (.slc 0 0 n (some n))), [], [(List.range n).map fun i => .int .u8 (.v i)]⟩

theorem pad_len {n len : Nat} {zs : List Int} (h : len ≤ zs.length) : (pad n len zs).length = n := by
  unfold pad
  rw [List.length_append, List.length_take, List.length_replicate]; omega

theorem InD_take {b : Int} : ∀ {l : List Int} (n : Nat), InD b l → InD b (l.take n)
  | [], n, _ => by rw [List.take_nil]; trivial
  | _ :: _, 0, _ => trivial
  | _ :: _, n + 1, h => ⟨h.1, h.2.1, InD_take n h.2.2⟩

theorem InD_zeros {b : Int} (hb : 0 < b) : ∀ n : Nat, InD b (List.replicate n 0)
  | 0 => trivial
  | n + 1 => ⟨Int.le_refl _, hb, InD_zeros hb n⟩

theorem pad_in {n len : Nat} {zs : List Int} (h : len ≤ zs.length) (hz : InD 256 zs) : InB (BB n) (pad n len zs) :=
  in_BB (pad_len h) (InD_append (InD_take _ hz) (InD_zeros (by decide) _))

def s_sz (n len : Nat) (zs : List Int) (h : len ≤ zs.length) (hz : InD 256 zs) : X.Sem := X.Sem.of (fun _ => pad n len zs) [] (BB n) (fun _ _ => pad_in h hz)

theorem cell_of {w : World} {g i : Nat} {Y : Array Value} {t : TypeId} (hg : w.heap[g]? = some (.cells Y t (0, 0))) : w.cell? ⟨g, i, none⟩ = Y[i]? := by
  simp [World.cell?, hg]

theorem frozen_of {w : World} {g i : Nat} {Y : Array Value} {t : TypeId} (hg : w.heap[g]? = some (.cells Y t (0, 0))) : w.frozen? ⟨g, i, none⟩ = false := by
  simp [World.frozen?, hg]

set_option maxRecDepth 100000 in
theorem good_sz {W : World0 Try.prog} {k n len cap : Nat} {a : Option Addr} {zs : List Int} (hn : n ≤ 100) (h : len ≤ zs.length) (hz : InD 256 zs) (hgv : W.gv k = .slice a len cap)
    (hI : ∀ w, W.I w → W.base ≤ w.heap.size → Row8 w a len zs ∧ (∀ x, a = some x → len ≠ 0 → x.block < w.heap.size)) (hcap : a = none → cap = 0) : Good W (T_sz k n) (s_sz n len zs h hz) := by
  intro F pr c hF hp E σ w args hpre
  have hargs : args = [.slice a len cap, .int .i64 n] := by
    have ha := hpre.args
    show args = _
    cases ha with
    | cons h1 t1 =>
      cases t1 with
      | cons h2 t2 =>
        cases t2
        have h1 : _ = E.gv k := h1
        have h2 : _ = Value.int .i64 n := h2
        rw [h1, h2, hpre.gv, hgv]
  obtain ⟨r1, r2⟩ := hI w hpre.inv hpre.ble
  show Invokes Try.prog 8 ⟨args⟩ w _
  unfold Invokes
  rw [hargs, Try.call8]
  refine (sized_calls n hn a len cap zs w r1 hcap r2).mono fun e w' ⟨he, Y, hY, hw⟩ => ?_
  refine ⟨_, σ.set 0 (w.heap.size, 0), he, ?_⟩
  have hg : w'.heap[w.heap.size]? = some (.cells Y 5 (0, 0)) := by
    rw [hw]; exact setRow_heap _ _ _ _ 5 (0, 0) (heap_alloc_new w _)
  have hother : ∀ b, b ≠ w.heap.size → w'.heap[b]? = (w.alloc (.cells (madeCells #[.int .u8 0] n) 5)).heap[b]? := by
    intro b hb; rw [hw]; exact setRow_other _ _ _ _ hb
  have hsz : w'.heap.size = w.heap.size + 1 := by rw [hw]; simp
  have hold : ∀ b, b < w.heap.size → w'.heap[b]? = w.heap[b]? := by
    intro b hb
    rw [hother b (by omega)]
    exact (Ev.alloc w (fun _ _ => False) _).block b hb (fun _ h => h)
  have hYl : Y.toList.length = n := by rw [hY, List.length_map, pad_len h]
  have hval : ∀ i, i < n → E.ρ i = (pad n len zs).getD i 0 := by
    intro i hi
    have := hpre.out i hi
    rw [hF] at this
    have e : (T_sz k n).nin + i = i := Nat.zero_add i
    rw [e] at this
    exact this
  refine ⟨fun r hr => absurd hr (Nat.not_lt_zero r), ?_, ?_, ?_, ⟨?_, ?_⟩, ?_⟩
  · intro r hr
    have hr : 1 ≤ r := hr
    have := hpre.free r (Nat.zero_le r)
    show (if r = 0 then _ else σ r) = none
    rw [if_neg (by omega), this]
  · refine ⟨(w.heap.size, 0), n, rfl, Nat.le_refl n, ?_, rfl⟩
    intro c' h; cases h; rfl
  · intro r cs p h1 _
    have h1 : ([] : List (Option (List L)))[r]? = some (some cs) := h1
    simp at h1
  · intro j cs hj
    have hj : [((List.range n).map fun i => L.int .u8 (.v i))][j]? = some cs := hj
    match j, hj with
    | 0, hj =>
      simp at hj
      subst hj
      refine ⟨(w.heap.size, 0), rfl, Nat.le_refl _, by show w.heap.size < w'.heap.size; omega, ?_⟩
      intro i c hc
      have hi : i < n := by
        have := (List.getElem?_eq_some_iff.1 hc).1
        simpa using this
      rw [List.getElem?_map, List.getElem?_range hi] at hc
      cases hc
      have ea : adr (w.heap.size, 0) i = ⟨w.heap.size, i, none⟩ := by unfold adr; rw [Nat.zero_add]
      refine ⟨.int .u8 (E.ρ i), ?_, rfl, ?_⟩
      · rw [ea, cell_of hg, ← Array.getElem?_toList, hY, List.getElem?_map, List.getElem?_eq_getElem (by rw [pad_len h]; exact hi), hval i hi, List.getD_eq_getElem?_getD, List.getElem?_eq_getElem (by rw [pad_len h]; exact hi)]
        rfl
      · rw [ea]; exact frozen_of hg
  · intro i j p q cs cs' h1 h2 hne _ _
    have h1 : [((List.range n).map fun i => L.int .u8 (.v i))][i]? = some cs := h1
    have h2 : [((List.range n).map fun i => L.int .u8 (.v i))][j]? = some cs' := h2
    have := (List.getElem?_eq_some_iff.1 h1).1
    have := (List.getElem?_eq_some_iff.1 h2).1
    simp at *
    omega
  · refine ⟨by rw [hw]; rfl, by rw [hw]; rfl, by rw [hw]; rfl, by omega, fun b hb _ => hold b hb, ?_, ?_⟩
    · intro b o hb _
      unfold World.cell?
      simp only [hold b hb]
    · intro b o hb
      unfold World.frozen?
      simp only [hold b hb]

end Go.X.Y

set_option maxRecDepth 20000
namespace Go.X.Y
open Go.Proofs
abbrev T_szA : Tmpl := T_sz 0 32
abbrev T_szB : Tmpl := T_sz 1 32
end Go.X.Y

set_option maxRecDepth 20000
namespace Go.X.Y
open Go.Proofs

section
variable (a0 : Option Addr) (len0 cap0 : Nat) (a1 : Option Addr) (len1 cap1 : Nat) (w : World)

def gv2 : Nat → Value
  | 0 => .slice a0 len0 cap0
  | 1 => .slice a1 len1 cap1
  | _ => .slice none 0 0

def gl2 : Nat → Nat
  | 0 => len0
  | 1 => len1
  | _ => 0

theorem mixed : Try.prog.follows .mixedOrders = true := by kernel_rfl

/-- the world that the law finds -/
def W2 : World0 Try.prog where
  gv := gv2 a0 len0 cap0 a1 len1 cap1
  gl := gl2 len0 len1
  I := fun w' => ∀ b, b < w.heap.size → w'.heap[b]? = w.heap[b]?
  base := w.heap.size
  hg := fun k => by
    match k with
    | 0 => exact ⟨a0, cap0, rfl⟩
    | 1 => exact ⟨a1, cap1, rfl⟩
    | _ + 2 => exact ⟨none, 0, rfl⟩
  st := fun w1 w2 h _ _ h2 b hb => (h2 b hb).trans (h b hb)
  mix := mixed

end

/-- what is said of a slice that came in -/
structure SOk (w : World) (a : Option Addr) (len cap : Nat) (zs : List Int) : Prop where
  row : Row8 w a len zs
  nil : a = none → cap = 0
  lt : ∀ x, a = some x → len ≠ 0 → x.block < w.heap.size
  len : len ≤ zs.length
  bytes : InD 256 zs

theorem cell_same {w w' : World} (h : ∀ b, b < w.heap.size → w'.heap[b]? = w.heap[b]?) {x : Addr} (hx : x.block < w.heap.size) : w'.cell? x = w.cell? x := by
  have := h x.block hx
  unfold World.cell?
  simp only [this]

theorem SOk.keep {w w' : World} {a : Option Addr} {len cap : Nat} {zs : List Int} (h : SOk w a len cap zs) (hI : ∀ b, b < w.heap.size → w'.heap[b]? = w.heap[b]?) (hs : w.heap.size ≤ w'.heap.size) :
    Row8 w' a len zs ∧ (∀ x, a = some x → len ≠ 0 → x.block < w'.heap.size) := by
  refine ⟨?_, fun x hx hl => Nat.lt_of_lt_of_le (h.lt x hx hl) hs⟩
  rcases h.row with ⟨e1, e2⟩ | ⟨x, e, h1, h2⟩
  · exact .inl ⟨e1, e2⟩
  · refine .inr ⟨x, e, h1, ?_⟩
    intro i hi
    have hc := h2 i hi
    rw [← hc]
    have hb : (x.add i).block < w.heap.size := by
      unfold World.cell? at hc
      cases hh : w.heap[(x.add i).block]? with
      | none => rw [hh] at hc; simp at hc
      | some o => exact (Array.getElem?_eq_some_iff.1 hh).1
    exact cell_same hI hb

section
variable {a0 : Option Addr} {len0 cap0 : Nat} {z0 : List Int} {a1 : Option Addr} {len1 cap1 : Nat} {z1 : List Int} {w : World}
  (h0 : SOk w a0 len0 cap0 z0) (h1 : SOk w a1 len1 cap1 z1)

def sA : X.Sem := s_sz 32 len0 z0 h0.len h0.bytes
def sB : X.Sem := s_sz 32 len1 z1 h1.len h1.bytes

theorem good_szA : Good (W2 a0 len0 cap0 a1 len1 cap1 w) T_szA (sA h0) :=
  good_sz (k := 0) (a := a0) (by decide) h0.len h0.bytes rfl (fun _ hI hs => h0.keep hI hs) h0.nil
theorem good_szB : Good (W2 a0 len0 cap0 a1 len1 cap1 w) T_szB (sB h1) :=
  good_sz (k := 1) (a := a1) (by decide) h1.len h1.bytes rfl (fun _ hI hs => h1.keep hI hs) h1.nil

theorem one_out {v : Int} (h : v = 1) (j : Nat) (a : A) (ha : [A.l v][j]? = some a) {ρ : Nat → Int} : ([1] : List Int).getD j 0 = a.ev ρ := by
  match j, ha with
  | 0, ha => cases ha; exact h.symm

theorem one_outv {x : Nat} {ρ : Nat → Int} (h : ρ x = 1) (j : Nat) (a : A) (ha : [A.v x][j]? = some a) : ([1] : List Int).getD j 0 = a.ev ρ := by
  match j, ha with
  | 0, ha => cases ha; exact h.symm

include h0 h1 in
end
end Go.X.Y
