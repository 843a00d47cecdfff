/-
  The law returns true at every input and leaves what came in as it was (the statement Rows.FnDecodedSaid). No conditions.
-/
import Derived.Test.YtkjhclknbkleoaaR16
import Derived.Test.YtkjhclknbkleoaaRows
import Derived.WalkKit
import Derived.ProofKit
import Derived.OpenShut
import Derived.ShutString
import Derived.ChangeOld
import Derived.Below
/-
  THE SHELL OF A PROOF OF 'Rows.FnDecodedSaid' ('curveandscalars/laws.FnDecoded'), WRITTEN BY PROGRAM (proof-skeleton.mjs, third state) off the guide's own print for that function. Not trusted: Lean checks it.
  THE WALK BELOW WAS THE HOLE; ALL ELSE IS THE GUIDE's OWN WAY (howto/template/XProofs.lean; Derived/Test/ChunkProofs.lean for 'Below') at this function's number and types: leave it.
-/
namespace Go.Proofs.Ytkjhclknbkleoaa.fnDecoded
open Go.ChangeShapes Go.WideShapes Go.ChangeAt Go.RowKit
open Go.ChangeMaps (open_string shut_string)
set_option linter.unusedVariables false

theorem own : ownKnob Try.prog.godebug = none := by kernel_rfl
theorem laidOut : laidOutB Try.prog = true := by kernel_rfl

/-- WHAT THE WALK IS TOLD OF A SLICE OF INTEGERS THAT CAME IN: it is nil; or it leads to a row of 'cap' cells, the numbers 'zs' (the first 'len' are its elements, the rest its spare room), each fitting its kind. -/
def IsRow (k : IntKind) (w : World) (a : Option Addr) (len cap : Nat) (zs : List Int) : Prop :=
  (a = none ∧ len = 0 ∧ cap = 0 ∧ zs = []) ∨
  ∃ x, a = some x ∧ len ≤ cap ∧ cap ≤ maxLen ∧ zs.length = cap ∧ (∀ i, i < zs.length → w.cell? (x.add i) = some (.int k (zs.getD i 0))) ∧ ∀ n ∈ zs, (Lit.int k n).wf = true

open Go.X in
theorem sok {w : World} {a : Option Addr} {len cap : Nat} {zs : List Int} (h : IsRow .u8 w a len cap zs) : Go.X.Y.SOk w a len cap zs := by
  rcases h with ⟨rfl, rfl, rfl, rfl⟩ | ⟨x, rfl, h1, _, h3, h4, h5⟩
  · exact ⟨.inl ⟨rfl, rfl⟩, fun _ => rfl, (fun x hx => by cases hx), Nat.le_refl _, trivial⟩
  · refine ⟨.inr ⟨x, rfl, by omega, h4⟩, (fun h => by cases h), ?_, (by omega), ?_⟩
    · intro y hy hlen
      cases hy
      have h0 := h4 0 (by omega)
      unfold World.cell? at h0
      have e : (x.add 0).block = x.block := Go.X.Y.block_addr x 0
      rw [e] at h0
      cases hh : w.heap[x.block]? with
      | none => rw [hh] at h0; simp at h0
      | some o => exact (Array.getElem?_eq_some_iff.1 hh).1
    · have : ∀ {l : List Int}, (∀ n ∈ l, (Lit.int .u8 n).wf = true) → InD 256 l := by
        intro l
        induction l with
        | nil => intro _; trivial
        | cons n r ih =>
          intro h
          have hn := h n (List.mem_cons_self ..)
          have hn : 0 ≤ n ∧ n < 256 := by
            simp [Lit.wf, IntKind.min, IntKind.max, IntKind.signed, IntKind.bits] at hn
            omega
          exact ⟨hn.1, hn.2, ih fun m hm => h m (List.mem_cons_of_mem _ hm)⟩
      exact this h5

open Go.X in
theorem row_den {ρ : Nat → Int} (gv : Nat → Value) (σ : X.Plc) {w : World} {x : Addr} {zs : List Int} (hx : x.spot = none) (hcell : ∀ i, i < zs.length → w.cell? (x.add i) = some (.int .u8 (zs.getD i 0))) (hf : ∀ i, i < zs.length → w.frozen? (x.add i) = false) (hρ : ∀ i, i < 32 → ρ i = zs.getD i 0) (hl : 32 ≤ zs.length) :
    CellsAt ⟨ρ, gv⟩ σ w (x.block, x.off) (us .u8 0 32) := by
  have key : ∀ (n k : Nat), k + n ≤ 32 → ∀ i c, (us .u8 k n)[i]? = some c → ∃ v, w.cell? (adr (x.block, x.off) (k + i)) = some v ∧ c.Den ⟨ρ, gv⟩ σ v ∧ w.frozen? (adr (x.block, x.off) (k + i)) = false := by
    intro n
    induction n with
    | zero => intro k _ i c h; simp [us] at h
    | succ n ih =>
      intro k hk i c h
      cases i with
      | zero =>
        simp [us] at h
        subst h
        have e : adr (x.block, x.off) (k + 0) = x.add k := by
          cases x with
          | mk b o sp =>
            simp at hx; subst hx
            have := adr_add (b, o) 0 k
            rw [Nat.zero_add] at this
            rw [Nat.add_zero]
            exact this.symm
        refine ⟨_, (by rw [e]; exact hcell k (by omega)), ?_, (by rw [e]; exact hf k (by omega))⟩
        show Value.int .u8 (zs.getD k 0) = .int .u8 (ρ k)
        rw [hρ k (by omega)]
      | succ i =>
        have := ih (k + 1) (by omega) i c (by simpa [us] using h)
        have e : k + 1 + i = k + (i + 1) := by omega
        rw [e] at this
        exact this
  intro i c h
  have := key 32 0 (by omega) i c h
  simpa using this

/-- the numbers that the law is told -/
def rho (z0 : List Int) (a1 : Int) (k : Nat) : Int := if k < 32 then z0.getD k 0 else if k = 32 then a1 else 1

theorem rho_lo (z0 : List Int) (a1 : Int) {k : Nat} (h : k < 32) : rho z0 a1 k = z0.getD k 0 := if_pos h

theorem rho_take (z0 : List Int) (a1 : Int) (h : 32 ≤ z0.length) : ((List.range 33).map (rho z0 a1)).take 32 = z0.take 32 := by
  apply List.ext_getElem?
  intro i
  by_cases hi : i < 32
  · rw [List.getElem?_take, if_pos hi, List.getElem?_take, if_pos hi, List.getElem?_map, List.getElem?_range (by omega)]
    show some (rho z0 a1 i) = _
    rw [rho_lo _ _ hi, List.getD_eq_getElem?_getD, List.getElem?_eq_getElem (by omega)]
    rfl
  · rw [List.getElem?_take, if_neg hi, List.getElem?_take, if_neg hi]

set_option maxRecDepth 100000 in
theorem region (a0 : Option Addr) (cap0 : Nat) (z0 : List Int) (a1 : Int) (w : World) (hs0 : Go.X.Y.SOk w a0 32 cap0 z0) (w0 : IsRow .u8 w a0 32 cap0 z0) (f0 : ∀ x, a0 = some x → ∀ i, i < z0.length → w.frozen? (x.add i) = false) (h9 : Go.X.Y.nine a1 = false) :
    Calls Try.prog 5 #[.slice a0 32 cap0, .int .i64 a1] w fun e w' => e = .returned (.bool true) ∧ Below w.heap.size w w' := by
  rcases w0 with ⟨_, h, _⟩ | ⟨x, rfl, hlc, _, hlen, hcell, hwz⟩
  · cases h
  have hl : 32 ≤ z0.length := by omega
  have hb : Go.X.InB (Go.X.BB 32) (z0.take 32) := by
    have := Go.X.Y.pad_in (n := 32) hs0.len hs0.bytes
    have e : Go.X.Y.pad 32 32 z0 = z0.take 32 := by
      show z0.take 32 ++ [] = _
      exact List.append_nil _
    rw [e] at this
    exact this
  have hx : x.spot = none := by
    have := World.cell?_spot (hcell 0 (by omega))
    rwa [show x.add 0 = x from if_pos rfl] at this
  have hcells := fun (gv : Nat → Value) (σ : Go.X.Plc) => row_den (ρ := rho z0 a1) gv σ hx hcell (f0 x rfl) (fun i hi => rho_lo z0 a1 hi) hl
  have hlt : x.block < w.heap.size := hs0.lt x rfl (by decide)
  have hpre : ((List.range 33).map (rho z0 a1)).take 32 = z0.take 32 ∧ Go.X.Y.nine (((List.range 33).map (rho z0 a1)).getD 32 0) = false := ⟨rho_take z0 a1 hl, h9⟩
  have hrep : Go.X.MRep 0 ⟨rho z0 a1, fun _ => .slice none 0 0⟩ (fun r => if r = 0 then some (x.block, x.off) else none) [Go.X.us .u8 0 32] w := by
    refine ⟨?_, ?_, fun r p _ => Nat.zero_le _, ?_⟩
    · intro r p cs hr hm
      have hr : (if r = 0 then some (x.block, x.off) else none) = some p := hr
      by_cases e : r = 0
      · subst e
        rw [if_pos rfl] at hr
        cases hr
        cases hm
        exact hcells _ _
      · rw [if_neg e] at hr; cases hr
    · intro r r' p p' cs cs' hn hr hr' _ _
      have hr : (if r = 0 then some (x.block, x.off) else none) = some p := hr
      have hr' : (if r' = 0 then some (x.block, x.off) else none) = some p' := hr'
      by_cases e : r = 0
      · by_cases e' : r' = 0
        · exact absurd (e.trans e'.symm) hn
        · rw [if_neg e'] at hr'; cases hr'
      · rw [if_neg e] at hr; cases hr
    · intro r p hr
      have hr : (if r = 0 then some (x.block, x.off) else none) = some p := hr
      by_cases e : r = 0
      · rw [if_pos e] at hr; cases hr; exact hlt
      · rw [if_neg e] at hr; cases hr
  have hfree : ∀ r, 1 ≤ r → (fun r => if r = 0 then some (x.block, x.off) else none : Go.X.Plc) r = none := by
    intro r h
    exact if_neg (by omega)
  by_cases hp : Go.X.isPt (z0.take 32)
  · have good := Go.X.Y.good_FnC hb hp
    have key := good (fun _ => (Go.X.Y.sp_C (z0.take 32)).f) (fun _ => (Go.X.Y.sp_C (z0.take 32)).pre) 0 rfl rfl ⟨rho z0 a1, fun _ => .slice none 0 0⟩ (fun r => if r = 0 then some (x.block, x.off) else none) w [.slice (some x) 32 cap0, .int .i64 a1] ?_
    · have key : Go.X.Invokes Try.prog 5 #[.slice (some x) 32 cap0, .int .i64 a1] w _ := key
      unfold Go.X.Invokes at key
      rw [Try.call5] at key
      refine Calls.mono key fun e w' ⟨v, σ', he, hp⟩ => ⟨?_, ?_⟩
      · have hd : v = .bool ((rho z0 a1 33) != 0) := hp.den
        rw [he, hd]; rfl
      · have hno : ∀ b o, ¬ Go.X.UpdAt (fun r => if r = 0 then some (x.block, x.off) else none) Go.X.Y.T_FnDecodedC b o := by
          rintro b o ⟨r, p, cs, h, _⟩
          have h : ([none] : List (Option (List Go.X.L)))[r]? = some (some cs) := h
          cases r with
          | zero => cases h
          | succ r => cases h
        exact ⟨hp.ev.os, hp.ev.tape, hp.ev.output, hp.ev.size, fun b hb => hp.ev.block b hb (hno b)⟩
    · refine ⟨rfl, trivial, Nat.zero_le _, ?_, fun _ => hpre, hfree, hrep, .cons ?_ (.cons rfl .nil)⟩
      · intro j hj
        have hj : j < 1 := hj
        obtain rfl : j = 0 := by omega
        rfl
      · exact ⟨(x.block, x.off), cap0, rfl, hlc, (fun c h => by cases h), by
          cases x with
          | mk b o sp => simp at hx; subst hx; rfl⟩
  · have good := Go.X.Y.good_FnD hb hp
    have key := good (fun _ => (Go.X.Y.sp_D (z0.take 32)).f) (fun _ => (Go.X.Y.sp_D (z0.take 32)).pre) 0 rfl rfl ⟨rho z0 a1, fun _ => .slice none 0 0⟩ (fun r => if r = 0 then some (x.block, x.off) else none) w [.slice (some x) 32 cap0, .int .i64 a1] ?_
    · have key : Go.X.Invokes Try.prog 5 #[.slice (some x) 32 cap0, .int .i64 a1] w _ := key
      unfold Go.X.Invokes at key
      rw [Try.call5] at key
      refine Calls.mono key fun e w' ⟨v, σ', he, hp⟩ => ⟨?_, ?_⟩
      · have hd : v = .bool ((1 : Int) != 0) := hp.den
        rw [he, hd]; rfl
      · have hno : ∀ b o, ¬ Go.X.UpdAt (fun r => if r = 0 then some (x.block, x.off) else none) Go.X.Y.T_FnDecodedD b o := by
          rintro b o ⟨r, p, cs, h, _⟩
          have h : ([none] : List (Option (List Go.X.L)))[r]? = some (some cs) := h
          cases r with
          | zero => cases h
          | succ r => cases h
        exact ⟨hp.ev.os, hp.ev.tape, hp.ev.output, hp.ev.size, fun b hb => hp.ev.block b hb (hno b)⟩
    · refine ⟨rfl, trivial, Nat.zero_le _, ?_, fun _ => hpre, hfree, hrep, .cons ?_ (.cons rfl .nil)⟩
      · intro j hj
        exact absurd hj (Nat.not_lt_zero j)
      · exact ⟨(x.block, x.off), cap0, rfl, hlc, (fun c h => by cases h), by
          cases x with
          | mk b o sp => simp at hx; subst hx; rfl⟩

/-! ### STEP 1: THE WALK: the Go text returns true, AND WRITES NOTHING THAT WAS THERE: 'Below w.heap.size w w'' (Derived/Below.lean: '.refl', '.alloc', '.drew', '.setCell' at a new block, '.trans'). Open each 'IsRow' by 'rcases' AHEAD of 'go_enter'; part every test ahead of the walk. -/
/-! ### STEP 1: THE WALK: the Go text returns true, AND WRITES NOTHING THAT WAS THERE: 'Below w.heap.size w w'' (Derived/Below.lean: '.refl', '.alloc', '.drew', '.setCell' at a new block, '.trans'). Open each 'IsRow' by 'rcases' AHEAD of 'go_enter'; part every test ahead of the walk. -/
set_option maxRecDepth 100000 in
theorem walk (a0 : Option Addr) (len0 cap0 : Nat) (z0 : List Int) (a1 : Int) (w : World) (w0 : IsRow .u8 w a0 len0 cap0 z0) (f0 : ∀ x, a0 = some x → ∀ i, i < z0.length → w.frozen? (x.add i) = false) (w1 : (Lit.int .i64 a1).wf = true) :
    Calls Try.prog 5 #[.slice a0 len0 cap0, .int .i64 a1] w fun e w' => e = .returned (.bool true) ∧ Below w.heap.size w w' := by
  have hs0 := sok w0
  have hlc : len0 ≤ cap0 := by rcases w0 with ⟨_, h1, h2, _⟩ | ⟨_, _, h1, _⟩ <;> omega
  by_cases h9 : Go.X.Y.nine a1 = true
  · by_cases hp : Go.X.isPt (Go.X.Y.pad 32 len0 z0)
    · have good := Go.X.Y.good_FnA hs0 hp
      have key := good (fun _ => (Go.X.Y.sp_A hs0).f) (fun _ => (Go.X.Y.sp_A hs0).pre) 0 rfl rfl ⟨fun x => if x = 0 then a1 else 1, Go.X.Y.gv2 a0 len0 cap0 none 0 0⟩ (fun _ => none) w [.slice a0 len0 cap0, .int .i64 a1] ?_
      · have key : Go.X.Invokes Try.prog 5 #[.slice a0 len0 cap0, .int .i64 a1] w _ := key
        unfold Go.X.Invokes at key
        rw [Try.call5] at key
        refine Calls.mono key fun e w' ⟨v, σ', he, hp⟩ => ⟨?_, ?_⟩
        · have hd : v = .bool (((if (1 : Nat) = 0 then a1 else 1) : Int) != 0) := hp.den
          rw [he, hd]; rfl
        · have hno : ∀ b o, ¬ Go.X.UpdAt (fun _ => none) Go.X.Y.T_FnDecodedA b o := by
            rintro b o ⟨r, p, cs, _, h, _⟩
            cases h
          exact ⟨hp.ev.os, hp.ev.tape, hp.ev.output, hp.ev.size, fun b hb => hp.ev.block b hb (hno b)⟩
      · refine ⟨rfl, fun _ _ => rfl, Nat.le_refl _, ?_, fun _ => h9, fun _ _ => rfl, ⟨?_, ?_, ?_, ?_⟩, .cons rfl (.cons rfl .nil)⟩
        · intro j hj
          have hj : j < 1 := hj
          obtain rfl : j = 0 := by omega
          rfl
        · intro r p cs h; cases h
        · intro r r' p p' cs cs' _ h; cases h
        · intro r p h; cases h
        · intro r p h; cases h
    · have good := Go.X.Y.good_FnB hs0 hp
      have key := good (fun _ => (Go.X.Y.sp_B hs0).f) (fun _ => (Go.X.Y.sp_B hs0).pre) 0 rfl rfl ⟨fun x => if x = 0 then a1 else 1, Go.X.Y.gv2 a0 len0 cap0 none 0 0⟩ (fun _ => none) w [.slice a0 len0 cap0, .int .i64 a1] ?_
      · have key : Go.X.Invokes Try.prog 5 #[.slice a0 len0 cap0, .int .i64 a1] w _ := key
        unfold Go.X.Invokes at key
        rw [Try.call5] at key
        refine Calls.mono key fun e w' ⟨v, σ', he, hp⟩ => ⟨?_, ?_⟩
        · have hd : v = .bool ((1 : Int) != 0) := hp.den
          rw [he, hd]; rfl
        · have hno : ∀ b o, ¬ Go.X.UpdAt (fun _ => none) Go.X.Y.T_FnDecodedB b o := by
            rintro b o ⟨r, p, cs, _, h, _⟩
            cases h
          exact ⟨hp.ev.os, hp.ev.tape, hp.ev.output, hp.ev.size, fun b hb => hp.ev.block b hb (hno b)⟩
      · refine ⟨rfl, fun _ _ => rfl, Nat.le_refl _, ?_, fun _ => h9, fun _ _ => rfl, ⟨?_, ?_, ?_, ?_⟩, .cons rfl (.cons rfl .nil)⟩
        · intro j hj
          exact absurd hj (Nat.not_lt_zero j)
        · intro r p cs h; cases h
        · intro r r' p p' cs cs' _ h; cases h
        · intro r p h; cases h
        · intro r p h; cases h
  · have h9 : Go.X.Y.nine a1 = false := by simpa using h9
    by_cases hbig : 2147483647 < len0
    · exact Go.X.Y.c5c a0 len0 cap0 a1 hbig w
    by_cases h100 : 100 < len0
    · exact Go.X.Y.c5b a0 len0 cap0 a1 h100 (by omega) hlc h9 w
    by_cases h32 : len0 = 32
    · subst h32
      exact region a0 cap0 z0 a1 w hs0 w0 f0 h9
    · exact Go.X.Y.c5a a0 len0 cap0 a1 (by omega) h32 hlc h9 w

/-! ### THE ROW's STEP: WRITTEN OUT: LEAVE IT -/
set_option maxRecDepth 100000 in
theorem lifted (os : Os) (started : os.Started) (H : Type) (enc : TypeId × Value → H) :
    ReturnsInHanded {} Try.checked os 5 .any (Rows.fnDecodedSpec.pre6 enc Try.prog Try.f5 Rows.fnDecodedRow.domain false) (Rows.fnDecodedSpec.post enc Try.prog Try.f5 false true false false) := by
  refine returnsInHanded_of_change (C := Try.checked) own started (by kernel_rfl) Try.func5
    (ChangeSpec.witness6 (enc := enc) (C := Try.checked) false ⟨#[], #[.slice none 0 0, .int .i64 0], []⟩ 8 (by kernel_rfl) (by kernel_rfl) (by kernel_rfl) (by kernel_rfl)) ?_
  intro W base args ds gs before hval0 hW hcnd _
  have hval : ∀ (j : Nat) t v, Try.f5.params[j]? = some t → args[j]? = some v → Value.okWide Try.prog W .any base t v := hval0
  have hW' := hW
  obtain ⟨p, q, hA0, hV, rfl, hfz, hnd⟩ := hW
  have hA : DataW.TrodAll enc Try.prog W 0 (fun _ => true) true Try.f5.params.toList args.toList ds p := hA0
  rw [Try.params5] at hA hval
  obtain ⟨v0, vs0, d0, ds0, p0, q0, hargs, rfl, rfl, h0, r0⟩ := trodAll_cons hA
  obtain ⟨v1, vs1, d1, ds1, p1, q1, rfl, rfl, rfl, h1, r1⟩ := trodAll_cons r0
  obtain ⟨rfl, rfl, rfl⟩ := trodAll_nil r1
  obtain rfl : args = #[v0, v1] := by cases args; simp_all
  obtain ⟨rfl, rfl⟩ := trodVars_none hV
  obtain ⟨a0, len0, cap0, rfl⟩ := okWide_slice Try.underlying22 (hval 0 22 v0 rfl rfl)
  have k0 := h0
  have lt0 : ∀ x ∈ p0, x.block < W.heap.size := by obtain ⟨m, hm⟩ := k0; exact DataW.trod_lt m _ _ _ hm
  obtain ⟨z0, w0, f0⟩ : ∃ zs, IsRow .u8 W a0 len0 cap0 zs ∧ ∀ x, a0 = some x → ∀ i, i < zs.length → W.frozen? (x.add i) = false := by
    obtain ⟨fuel, hf⟩ := h0
    rcases open_ints Try.underlying22 Try.underlying5 (by kernel_rfl) hf with ⟨hcs, _⟩ | ⟨x, l, c, zs, hcs, _, hl, hm, hz, hpl, hcell, hwz⟩
    · simp [Value.cells] at hcs
      obtain ⟨rfl, rfl, rfl⟩ := hcs
      exact ⟨[], .inl ⟨rfl, rfl, rfl, rfl⟩, fun x h => by cases h⟩
    · simp [Value.cells] at hcs
      obtain ⟨rfl, rfl, rfl⟩ := hcs
      refine ⟨zs, .inr ⟨_, rfl, hl, hm, by simpa using hz, hcell, hwz⟩, ?_⟩
      intro y hy i hi
      cases hy
      have hc := hcell i hi
      have hsp := World.cell?_spot hc
      have hp0 : p0 = MemPlace.row x zs.length := (Prod.mk.inj hpl).2
      have hm : MemPlace.cell (x.add i).block (x.add i).off ∈ p0 ++ (p1 ++ []) ++ [] := by
        rw [hp0]
        refine List.mem_append_left _ (List.mem_append_left _ ?_)
        unfold MemPlace.row
        refine List.mem_map.2 ⟨i, List.mem_range.2 hi, ?_⟩
        have e0 : x.add i = ⟨x.block, x.off + i, none⟩ := by
          have hx : x.spot = none := by
            have := World.cell?_spot (hcell 0 (by omega))
            rwa [show x.add 0 = x from if_pos rfl] at this
          cases x with
          | mk b o sp =>
            simp at hx; subst hx
            have := Go.X.adr_add (b, o) 0 i
            rw [Nat.zero_add] at this
            exact this
        rw [e0]
      have hf := hfz _ _ hm
      have e : (⟨(x.add i).block, (x.add i).off, none⟩ : Addr) = x.add i := by
        cases hya : x.add i with
        | mk b o sp => rw [hya] at hsp; simp at hsp; subst hsp; rfl
      rw [e] at hf
      exact hf
  obtain ⟨a1, rfl, rfl, rfl, w1⟩ := open_int Try.underlying3 (hval 1 3 v1 rfl rfl) h1
  clear hA0 hval0
  refine (walk a0 len0 cap0 z0 a1 W w0 f0 w1).mono fun e W' ⟨he, bel⟩ => ?_
  subst he
  exact ⟨_, rfl, _, _, _, [], _, [], hW', trodAll_mk1 (shut_bool Try.underlying4 _), (trodAll_cons_mk (Below.trod laidOut (by kernel_rfl) (of_decide_eq_true (by kernel_rfl)) k0 bel lt0) (trodAll_cons_mk (shut_int Try.underlying3 w1) trodAll_mk0)), rfl, bel.frame _, fun h => by cases h⟩

theorem over : Rows.fnDecodedRow.holds Try.pinned (OpenSpec.ofChange Rows.fnDecodedSpec) :=
  OpenClaim.holds_of_wide 5 Try.f5 rfl rfl rfl rfl rfl rfl rfl ⟨rfl, rfl, rfl, rfl, rfl⟩ rfl rfl rfl rfl rfl (by kernel_rfl) Try.func5 (by kernel_rfl)
    (of_decide_eq_true (by kernel_rfl)) (by unfold Func.isWrapper; first | (rw [if_pos (by decide +kernel)]; kernel_rfl) | (rw [if_neg (by decide +kernel)]; exact ⟨rfl, rfl⟩))
    (fun os started H enc _ => lifted os started H enc)

/-- ████ THE STATEMENT ████ -/
theorem proved : Rows.FnDecodedSaid := over
#print axioms proved
end Go.Proofs.Ytkjhclknbkleoaa.fnDecoded
