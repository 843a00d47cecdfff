/-
  A part of the proof of YtkjhclknbkleoaaGreat: texts X9, X10, X11, X12, X13, X14, X15, X16, X17. No conditions.
-/
import Derived.Test.YtkjhclknbkleoaaGreatT01
import Derived.Laws.Append
import Derived.Laws.AppendOwn
import Derived.Tactics
namespace Go.X

structure Sub where
  nin : Nat
  ins : List A
  n0 : Nat
  nm : Nat
  rs : List (Nat × Nat × Nat)
  m0 : Nat

def subA (u : Sub) : A → Option A
  | .l n => some (.l n)
  | .v x => match Nat.blt x u.nin with
    | true => u.ins[x]?
    | false => some (.v (u.n0 + (x - u.nin)))

def subR (u : Sub) (r off : Nat) : Option (Nat × Nat) :=
  match Nat.blt r u.nm with
  | true => match lkR u.rs r with
    | some (q, o) => some (q, o + off)
    | none => none
  | false => some (u.m0 + (r - u.nm), off)

def subAs (u : Sub) : List A → Option (List A)
  | [] => some []
  | a :: r => match subA u a, subAs u r with | some a, some r => some (a :: r) | _, _ => none

def subCaps (u : Sub) : List (Nat × Nat) → Option (List (Nat × Nat))
  | [] => some []
  | (r, o) :: t => match subR u r o, subCaps u t with | some a, some t => some (a :: t) | _, _ => none

def subL (u : Sub) : L → Option L
  | .int k a => match subA u a with | some a => some (.int k a) | none => none
  | .bool a => match subA u a with | some a => some (.bool a) | none => none
  | .ptr r off => match subR u r off with | some (q, o) => some (.ptr q o) | none => none
  | .px r off s i n => match subR u r off, subA u i with | some (q, o), some i => some (.px q o s i n) | _, _ => none
  | .slc r off n c => match subR u r off with | some (q, o) => some (.slc q o n c) | none => none
  | .str bs => match subAs u bs with | some bs => some (.str bs) | none => none
  | .ifp t r off => match subR u r off with | some (q, o) => some (.ifp t q o) | none => none
  | .fn f cs => match subCaps u cs with | some cs => some (.fn f cs) | none => none
  | .gho g => some (.gho g)
  | .cst v => some (.cst v)
  | .any => some .any

def subLs (u : Sub) : List L → Option (List L)
  | [] => some []
  | a :: r => match subL u a, subLs u r with | some a, some r => some (a :: r) | _, _ => none

def subS1 (u : Sub) : S1 → Option S1
  | .lf x => match subL u x with | some x => some (.lf x) | none => none
  | .agg cs => match subLs u cs with | some cs => some (.agg cs) | none => none

def subS1s (u : Sub) : List S1 → Option (List S1)
  | [] => some []
  | a :: r => match subS1 u a, subS1s u r with | some a, some r => some (a :: r) | _, _ => none

def subS (u : Sub) : S → Option S
  | .one x => match subS1 u x with | some x => some (.one x) | none => none
  | .tup xs => match subS1s u xs with | some xs => some (.tup xs) | none => none

def subM (u : Sub) : Mem → Option Mem
  | [] => some []
  | a :: r => match subLs u a, subM u r with | some a, some r => some (a :: r) | _, _ => none

structure SubOk (u : Sub) (Et : Env) (σt : Plc) (E : Env) (σ : Plc) : Prop where
  gv : Et.gv = E.gv
  a : ∀ a a', subA u a = some a' → a.ev Et.ρ = a'.ev E.ρ
  r : ∀ r off q o, subR u r off = some (q, o) → ∀ p, σt r = some p → ∃ p', σ q = some p' ∧ adr p off = adr p' o

section
variable {u : Sub} {Et E : Env} {σt σ : Plc}

theorem subAs_map (h : SubOk u Et σt E σ) : ∀ {as bs : List A}, subAs u as = some bs → as.map (A.ev Et.ρ) = bs.map (A.ev E.ρ)
  | [], bs, e => by simp [subAs] at e; subst e; rfl
  | a :: as, bs, e => by
    simp only [subAs] at e
    split at e
    · rename_i a' r h1 h2
      cases e
      simp [h.a _ _ h1, subAs_map h h2]
    · cases e

theorem subCaps_den (h : SubOk u Et σt E σ) : ∀ {x y : List (Nat × Nat)} {vs : List Value}, subCaps u x = some y →
    All2 (fun (c : Nat × Nat) u => ∃ p, σt c.1 = some p ∧ u = Value.pointer (some (adr p c.2))) x vs →
    All2 (fun (c : Nat × Nat) u => ∃ p, σ c.1 = some p ∧ u = Value.pointer (some (adr p c.2))) y vs
  | [], y, vs, e, hd => by simp [subCaps] at e; subst e; cases hd; exact .nil
  | (r, o) :: x, y, vs, e, hd => by
    simp only [subCaps] at e
    split at e
    · rename_i a t h1 h2
      cases e
      cases hd with
      | cons d1 d2 =>
        obtain ⟨p, hp, rfl⟩ := d1
        obtain ⟨q, o'⟩ := a
        obtain ⟨p', hp', e⟩ := h.r _ _ _ _ h1 p hp
        exact .cons ⟨p', hp', by simp [e]⟩ (subCaps_den h h2 d2)
    · cases e

theorem subL_den (h : SubOk u Et σt E σ) {x y : L} {v : Value} (e : subL u x = some y) (hd : x.Den Et σt v) : y.Den E σ v := by
  cases x with
  | int k a =>
    simp only [subL] at e
    split at e
    · rename_i a' h1
      cases e
      show v = .int k _
      rw [← h.a _ _ h1]; exact hd
    · cases e
  | bool a =>
    simp only [subL] at e
    split at e
    · rename_i a' h1
      cases e
      show v = .bool (_ != 0)
      rw [← h.a _ _ h1]; exact hd
    · cases e
  | ptr r off =>
    simp only [subL] at e
    split at e
    · rename_i q o h1
      cases e
      obtain ⟨p, hp, rfl⟩ := hd
      obtain ⟨p', hp', e⟩ := h.r _ _ _ _ h1 p hp
      exact ⟨p', hp', by rw [e]⟩
    · cases e
  | px r off s i n =>
    simp only [subL] at e
    split at e
    · rename_i q o i' h1 h2
      cases e
      obtain ⟨p, hp, h0, hlt, rfl⟩ := hd
      obtain ⟨p', hp', e⟩ := h.r _ _ _ _ h1 p hp
      have := h.a _ _ h2
      refine ⟨p', hp', by rw [← this]; exact h0, by rw [← this]; exact hlt, ?_⟩
      rw [← this]
      unfold adr at e ⊢
      simp only [Addr.mk.injEq, and_true] at e
      simp only [Value.pointer.injEq, Option.some.injEq, Addr.mk.injEq, and_true]
      exact ⟨e.1, by omega⟩
    · cases e
  | slc r off n c =>
    simp only [subL] at e
    split at e
    · rename_i q o h1
      cases e
      obtain ⟨p, cc, hp, hl, hc, rfl⟩ := hd
      obtain ⟨p', hp', e⟩ := h.r _ _ _ _ h1 p hp
      exact ⟨p', cc, hp', hl, hc, by rw [e]⟩
    · cases e
  | str bs =>
    simp only [subL] at e
    split at e
    · rename_i bs' h1
      cases e
      have := subAs_map h h1
      show v = .string ⟨(bs'.map fun a => UInt8.ofNat (a.ev E.ρ).toNat).toArray⟩
      have e2 : (bs'.map fun a => UInt8.ofNat (a.ev E.ρ).toNat) = (bs'.map (A.ev E.ρ)).map fun n => UInt8.ofNat n.toNat := by simp
      have e1 : (bs.map fun a => UInt8.ofNat (a.ev Et.ρ).toNat) = (bs.map (A.ev Et.ρ)).map fun n => UInt8.ofNat n.toNat := by simp
      rw [e2, ← this, ← e1]; exact hd
    · cases e
  | ifp t r off =>
    simp only [subL] at e
    split at e
    · rename_i q o h1
      cases e
      obtain ⟨p, hp, rfl⟩ := hd
      obtain ⟨p', hp', e⟩ := h.r _ _ _ _ h1 p hp
      exact ⟨p', hp', by rw [e]⟩
    · cases e
  | fn f cs =>
    simp only [subL] at e
    split at e
    · rename_i cs' h1
      cases e
      obtain ⟨vs, rfl, ha⟩ := hd
      exact ⟨vs, rfl, subCaps_den h h1 ha⟩
    · cases e
  | gho g => simp [subL] at e; subst e; show v = E.gv g; rw [← h.gv]; exact hd
  | cst c => simp [subL] at e; subst e; exact hd
  | any => simp [subL] at e; subst e; trivial

theorem subLs_den (h : SubOk u Et σt E σ) : ∀ {x y : List L} {vs : List Value}, subLs u x = some y → All2 (L.Den Et σt) x vs → All2 (L.Den E σ) y vs
  | [], y, vs, e, hd => by simp [subLs] at e; subst e; cases hd; exact .nil
  | a :: x, y, vs, e, hd => by
    simp only [subLs] at e
    split at e
    · rename_i a' r h1 h2
      cases e
      cases hd with
      | cons d1 d2 => exact .cons (subL_den h h1 d1) (subLs_den h h2 d2)
    · cases e

theorem subLs_get (h : SubOk u Et σt E σ) : ∀ {x y : List L}, subLs u x = some y → x.length = y.length ∧ ∀ (i : Nat) (d : L), y[i]? = some d → ∃ c : L, x[i]? = some c ∧ ∀ v, c.Den Et σt v → d.Den E σ v
  | [], y, e => by simp [subLs] at e; subst e; simp
  | a :: x, y, e => by
    simp only [subLs] at e
    split at e
    · rename_i a' r h1 h2
      cases e
      obtain ⟨hl, hg⟩ := subLs_get h h2
      refine ⟨by simp [hl], ?_⟩
      intro i d hi
      cases i with
      | zero => simp at hi; subst hi; exact ⟨a, rfl, fun v hv => subL_den h h1 hv⟩
      | succ i => simp at hi; simpa using hg i d hi
    · cases e

theorem subS1_den (h : SubOk u Et σt E σ) {x y : S1} {v : Value} (e : subS1 u x = some y) (hd : x.Den Et σt v) : y.Den E σ v := by
  cases x with
  | lf x =>
    simp only [subS1] at e
    split at e
    · rename_i x' h1; cases e; exact subL_den h h1 hd
    · cases e
  | agg cs =>
    simp only [subS1] at e
    split at e
    · rename_i cs' h1
      cases e
      obtain ⟨vs, rfl, ha⟩ := hd
      exact ⟨vs, rfl, subLs_den h h1 ha⟩
    · cases e

theorem subS1s_den (h : SubOk u Et σt E σ) : ∀ {x y : List S1} {vs : List Value}, subS1s u x = some y → All2 (S1.Den Et σt) x vs → All2 (S1.Den E σ) y vs
  | [], y, vs, e, hd => by simp [subS1s] at e; subst e; cases hd; exact .nil
  | a :: x, y, vs, e, hd => by
    simp only [subS1s] at e
    split at e
    · rename_i a' r h1 h2
      cases e
      cases hd with
      | cons d1 d2 => exact .cons (subS1_den h h1 d1) (subS1s_den h h2 d2)
    · cases e

theorem subS_den (h : SubOk u Et σt E σ) {x y : S} {v : Value} (e : subS u x = some y) (hd : x.Den Et σt v) : y.Den E σ v := by
  cases x with
  | one x =>
    simp only [subS] at e
    split at e
    · rename_i x' h1; cases e; exact subS1_den h h1 hd
    · cases e
  | tup cs =>
    simp only [subS] at e
    split at e
    · rename_i cs' h1
      cases e
      obtain ⟨vs, rfl, ha⟩ := hd
      exact ⟨vs, rfl, subS1s_den h h1 ha⟩
    · cases e

theorem subLs_cells (h : SubOk u Et σt E σ) {x y : List L} {w : World} {p : Nat × Nat} (e : subLs u x = some y) (hc : CellsAt Et σt w p x) : CellsAt E σ w p y := by
  intro i d hd
  obtain ⟨c, hcx, hcd⟩ := (subLs_get h e).2 i d hd
  obtain ⟨v, h1, h2, h3⟩ := hc i c hcx
  exact ⟨v, h1, hcd v h2, h3⟩

theorem subM_get : ∀ {x y : Mem}, subM u x = some y → x.length = y.length ∧ ∀ (i : Nat) (d : List L), y[i]? = some d → ∃ c : List L, x[i]? = some c ∧ subLs u c = some d
  | [], y, e => by simp [subM] at e; subst e; simp
  | a :: x, y, e => by
    simp only [subM] at e
    split at e
    · rename_i a' r h1 h2
      cases e
      obtain ⟨hl, hg⟩ := subM_get h2
      refine ⟨by simp [hl], ?_⟩
      intro i d hi
      cases i with
      | zero => simp at hi; subst hi; exact ⟨a, rfl, h1⟩
      | succ i => simp at hi; simpa using hg i d hi
    · cases e

end

/-! ### segments -/

abbrev Seg := Nat × Nat × Nat

def segs (M : Mem) (b : B) : Mem → Nat → Option (List Seg)
  | [], _ => some []
  | cs :: rest, r =>
    match lkR b.rs r with
    | none => none
    | some (q, o) =>
      match M[q]? with
      | none => none
      | some ds => match Nat.ble (o + cs.length) ds.length, segs M b rest (r + 1) with
        | true, some t => some ((q, o, cs.length) :: t)
        | _, _ => none

def sep (x : Seg) : List Seg → Bool
  | [] => true
  | y :: r => (!(Nat.beq x.1 y.1) || Nat.ble (x.2.1 + x.2.2) y.2.1 || Nat.ble (y.2.1 + y.2.2) x.2.1) && sep x r

def disjB : List Seg → Bool
  | [] => true
  | x :: r => sep x r && disjB r

theorem segs_get {M : Mem} {b : B} : ∀ {t : Mem} {r : Nat} {sg : List Seg}, segs M b t r = some sg → sg.length = t.length ∧
    ∀ (j : Nat) (cs : List L), t[j]? = some cs → ∃ (q o : Nat) (ds : List L), sg[j]? = some (q, o, cs.length) ∧ lkR b.rs (r + j) = some (q, o) ∧ M[q]? = some ds ∧ o + cs.length ≤ ds.length
  | [], r, sg, h => by simp [segs] at h; subst h; simp
  | c0 :: rest, r, sg, h => by
    simp only [segs] at h
    split at h
    · cases h
    · rename_i q o hq
      split at h
      · cases h
      · rename_i ds hds
        split at h
        · rename_i t hle ht
          cases h
          obtain ⟨hl, hg⟩ := segs_get ht
          refine ⟨by simp [hl], ?_⟩
          intro j cs hj
          cases j with
          | zero => simp at hj; subst hj; exact ⟨q, o, ds, rfl, hq, hds, Nat.le_of_ble_eq_true hle⟩
          | succ j =>
            simp at hj
            obtain ⟨q', o', ds', a1, a2, a3⟩ := hg j cs hj
            exact ⟨q', o', ds', by simpa using a1, by rw [show r + (j + 1) = r + 1 + j from by omega]; exact a2, a3⟩
        · cases h

theorem sep_get {x : Seg} : ∀ {l : List Seg}, sep x l = true → ∀ (j : Nat) (y : Seg), l[j]? = some y → x.1 = y.1 → x.2.1 + x.2.2 ≤ y.2.1 ∨ y.2.1 + y.2.2 ≤ x.2.1
  | [], h, j, y, hj, e => by simp at hj
  | z :: l, h, j, y, hj, e => by
    simp only [sep, Bool.and_eq_true] at h
    cases j with
    | zero =>
      simp at hj; subst hj
      have := h.1
      rw [e, beq_tt] at this
      simp only [Bool.not_true, Bool.false_or, Bool.or_eq_true] at this
      exact this.imp Nat.le_of_ble_eq_true Nat.le_of_ble_eq_true
    | succ j => exact sep_get h.2 j y (by simpa using hj) e

theorem disjB_get : ∀ {l : List Seg}, disjB l = true → ∀ (i j : Nat) (x y : Seg), i ≠ j → l[i]? = some x → l[j]? = some y → x.1 = y.1 → x.2.1 + x.2.2 ≤ y.2.1 ∨ y.2.1 + y.2.2 ≤ x.2.1
  | [], h, i, j, x, y, hne, hi, hj, e => by simp at hi
  | z :: l, h, i, j, x, y, hne, hi, hj, e => by
    simp only [disjB, Bool.and_eq_true] at h
    cases i with
    | zero =>
      simp at hi; subst hi
      cases j with
      | zero => exact absurd rfl hne
      | succ j => exact sep_get h.1 j y (by simpa using hj) e
    | succ i =>
      cases j with
      | zero =>
        simp at hj; subst hj
        exact (sep_get h.1 i x (by simpa using hi) e.symm).symm
      | succ j => exact disjB_get h.2 i j x y (by omega) (by simpa using hi) (by simpa using hj) e

def updM (u : Sub) : List Seg → List (Option (List L)) → Mem → Option (Mem × List Nat)
  | [], [], M => some (M, [])
  | _ :: sg, none :: up, M => updM u sg up M
  | (q, o, len) :: sg, some cs :: up, M =>
    match subLs u cs, M[q]? with
    | some cs', some ds => match Nat.beq cs.length len && Nat.beq cs'.length len && Nat.ble (o + len) ds.length with
      | true => match updM u sg up (M.set q (spl ds o cs')) with
        | some (M', ws) => some (M', q :: ws)
        | none => none
      | false => none
    | _, _ => none
  | _, _, _ => none

theorem updM_len {u : Sub} : ∀ {sg : List Seg} {up : List (Option (List L))} {M M' : Mem} {ws : List Nat}, updM u sg up M = some (M', ws) → M'.length = M.length
  | [], [], M, M', ws, h => by simp [updM] at h; rw [h.1]
  | [], _ :: _, M, M', ws, h => by simp [updM] at h
  | _ :: sg, [], M, M', ws, h => by simp [updM] at h
  | _ :: sg, none :: up, M, M', ws, h => by simp only [updM] at h; exact updM_len h
  | (q, o, len) :: sg, some cs :: up, M, M', ws, h => by
    simp only [updM] at h
    split at h
    · split at h
      · split at h
        · rename_i h1
          cases h
          rw [updM_len h1]; simp
        · cases h
      · cases h
    · cases h

theorem updM_ws {u : Sub} : ∀ {sg : List Seg} {up : List (Option (List L))} {M M' : Mem} {ws : List Nat}, updM u sg up M = some (M', ws) →
    (∀ (j : Nat) (s : Seg) (cs : List L), sg[j]? = some s → up[j]? = some (some cs) → s.1 ∈ ws ∧ cs.length = s.2.2) ∧ sg.length = up.length
  | [], [], M, M', ws, h => by simp
  | [], _ :: _, M, M', ws, h => by simp [updM] at h
  | _ :: sg, [], M, M', ws, h => by simp [updM] at h
  | s0 :: sg, none :: up, M, M', ws, h => by
    simp only [updM] at h
    obtain ⟨h1, h2⟩ := updM_ws h
    refine ⟨?_, by simp [h2]⟩
    intro j s cs hj hu
    cases j with
    | zero => simp at hu
    | succ j => exact h1 j s cs (by simpa using hj) (by simpa using hu)
  | (q, o, len) :: sg, some cs0 :: up, M, M', ws, h => by
    simp only [updM] at h
    split at h
    · split at h
      · rename_i hok
        split at h
        · rename_i h1
          cases h
          obtain ⟨g1, g2⟩ := updM_ws h1
          simp only [Bool.and_eq_true] at hok
          refine ⟨?_, by simp [g2]⟩
          intro j s cs hj hu
          cases j with
          | zero => simp at hj hu; subst hj; subst hu; exact ⟨by simp, Nat.eq_of_beq_eq_true hok.1.1⟩
          | succ j =>
            obtain ⟨a1, a2⟩ := g1 j s cs (by simpa using hj) (by simpa using hu)
            exact ⟨List.mem_cons_of_mem _ a1, a2⟩
        · cases h
      · cases h
    · cases h

theorem updM_look {u : Sub} : ∀ {sg : List Seg} {up : List (Option (List L))} {M M' : Mem} {ws : List Nat}, updM u sg up M = some (M', ws) →
    ∀ (q : Nat) (ds' : List L), M'[q]? = some ds' → ∃ ds : List L, M[q]? = some ds ∧ ds'.length = ds.length ∧ ∀ (i : Nat) (c : L), ds'[i]? = some c →
      (∃ (j o len : Nat) (cs cs' : List L), sg[j]? = some (q, o, len) ∧ up[j]? = some (some cs) ∧ subLs u cs = some cs' ∧ o ≤ i ∧ i < o + len ∧ cs'[i - o]? = some c) ∨
      (ds[i]? = some c ∧ ∀ (j o len : Nat) (cs : List L), sg[j]? = some (q, o, len) → up[j]? = some (some cs) → ¬ (o ≤ i ∧ i < o + len))
  | [], [], M, M', ws, h, q, ds', hq => by
    simp [updM] at h
    rw [← h.1] at hq
    exact ⟨ds', hq, rfl, fun i c hc => .inr ⟨hc, by simp⟩⟩
  | [], _ :: _, M, M', ws, h, q, ds', hq => by simp [updM] at h
  | _ :: sg, [], M, M', ws, h, q, ds', hq => by simp [updM] at h
  | s0 :: sg, none :: up, M, M', ws, h, q, ds', hq => by
    simp only [updM] at h
    obtain ⟨ds, h1, h2, h3⟩ := updM_look h q ds' hq
    refine ⟨ds, h1, h2, fun i c hc => ?_⟩
    rcases h3 i c hc with ⟨j, o, len, cs, cs', a1, a2, a3⟩ | ⟨b1, b2⟩
    · exact .inl ⟨j + 1, o, len, cs, cs', by simpa using a1, by simpa using a2, a3⟩
    · refine .inr ⟨b1, ?_⟩
      intro j o len cs hj hu
      cases j with
      | zero => simp at hu
      | succ j => exact b2 j o len cs (by simpa using hj) (by simpa using hu)
  | (q0, o0, len0) :: sg, some cs0 :: up, M, M', ws, h, q, ds', hq => by
    simp only [updM] at h
    split at h
    · rename_i cs1 ds0 hs hd
      split at h
      · rename_i hok
        simp only [Bool.and_eq_true] at hok
        have e1 := Nat.eq_of_beq_eq_true hok.1.2
        have e2 := Nat.le_of_ble_eq_true hok.2
        split at h
        · rename_i h1
          cases h
          obtain ⟨ds1, g1, g2, g3⟩ := updM_look h1 q ds' hq
          by_cases e : q0 = q
          · subst e
            rw [List.getElem?_set_self (lt_of_get hd)] at g1
            cases g1
            refine ⟨ds0, hd, by rw [g2, spl_length (by omega)], ?_⟩
            intro i c hc
            rcases g3 i c hc with ⟨j, o, len, cs, cs', a1, a2, a3⟩ | ⟨b1, b2⟩
            · exact .inl ⟨j + 1, o, len, cs, cs', by simpa using a1, by simpa using a2, a3⟩
            · by_cases hin : o0 ≤ i ∧ i < o0 + len0
              · rw [spl_in (by omega) hin.1 (by omega)] at b1
                exact .inl ⟨0, o0, len0, cs0, cs1, rfl, rfl, hs, hin.1, hin.2, b1⟩
              · rw [spl_out (by omega) (by omega)] at b1
                refine .inr ⟨b1, ?_⟩
                intro j o len cs hj hu
                cases j with
                | zero => simp at hj; obtain ⟨rfl, rfl⟩ := hj; exact hin
                | succ j => exact b2 j o len cs (by simpa using hj) (by simpa using hu)
          · rw [List.getElem?_set_ne e] at g1
            refine ⟨ds1, g1, g2, ?_⟩
            intro i c hc
            rcases g3 i c hc with ⟨j, o, len, cs, cs', a1, a2, a3⟩ | ⟨b1, b2⟩
            · exact .inl ⟨j + 1, o, len, cs, cs', by simpa using a1, by simpa using a2, a3⟩
            · refine .inr ⟨b1, ?_⟩
              intro j o len cs hj hu
              cases j with
              | zero => simp at hj; exact absurd hj.1 e
              | succ j => exact b2 j o len cs (by simpa using hj) (by simpa using hu)
        · cases h
      · cases h
    · cases h

end Go.X

namespace Go.X

def insOf (b : B) : Nat → Nat → Option (List A)
  | 0, _ => some []
  | n + 1, i => match lkA b.is i, insOf b n (i + 1) with
    | some a, some r => some (a :: r)
    | _, _ => none

theorem insOf_get {b : B} : ∀ {n i : Nat} {as : List A}, insOf b n i = some as → as.length = n ∧ ∀ j, j < n → ∃ a, as[j]? = some a ∧ lkA b.is (i + j) = some a
  | 0, i, as, h => by simp [insOf] at h; subst h; exact ⟨rfl, fun j hj => absurd hj (Nat.not_lt_zero _)⟩
  | n + 1, i, as, h => by
    simp only [insOf] at h
    split at h
    · rename_i a r h1 h2
      cases h
      obtain ⟨hl, hg⟩ := insOf_get h2
      refine ⟨by simp [hl], ?_⟩
      intro j hj
      cases j with
      | zero => exact ⟨a, rfl, h1⟩
      | succ j =>
        obtain ⟨c, hc, hk⟩ := hg j (by omega)
        exact ⟨c, by simpa using hc, by rw [show i + (j + 1) = i + 1 + j from by omega]; exact hk⟩
    · cases h

def outs (c : Nat) (ins : List A) (n0 : Nat) : Nat → List (Nat × Ins)
  | 0 => []
  | j + 1 => (n0 + j, .app c ins j) :: outs c ins n0 j

theorem outs_mem {c : Nat} {ins : List A} {n0 : Nat} : ∀ {n j : Nat}, j < n → (n0 + j, Ins.app c ins j) ∈ outs c ins n0 n
  | n + 1, j, h => by
    simp only [outs]
    by_cases e : j = n
    · subst e; simp
    · exact List.mem_cons_of_mem _ (outs_mem (by omega))

def keysLt (n : Nat) : List (Nat × A) → Bool
  | [] => true
  | (x, _) :: r => Nat.blt x n && keysLt n r

theorem keysLt_get {n : Nat} : ∀ {l : List (Nat × A)}, keysLt n l = true → ∀ x a, lkA l x = some a → x < n
  | [], h, x, a, hx => by simp [lkA] at hx
  | (y, c) :: l, h, x, a, hx => by
    simp only [keysLt, Bool.and_eq_true] at h
    simp only [lkA] at hx
    split at hx
    · rename_i e; have := Nat.eq_of_beq_eq_true e; subst this; exact Nat.le_of_ble_eq_true h.1
    · exact keysLt_get h.2 x a hx

def keysLtR (n : Nat) : List (Nat × Nat × Nat) → Bool
  | [] => true
  | (x, _) :: r => Nat.blt x n && keysLtR n r

theorem keysLtR_get {n : Nat} : ∀ {l : List (Nat × Nat × Nat)}, keysLtR n l = true → ∀ x a, lkR l x = some a → x < n
  | [], h, x, a, hx => by simp [lkR] at hx
  | (y, c) :: l, h, x, a, hx => by
    simp only [keysLtR, Bool.and_eq_true] at h
    simp only [lkR] at hx
    split at hx
    · rename_i e; have := Nat.eq_of_beq_eq_true e; subst this; exact Nat.le_of_ble_eq_true h.1
    · exact keysLtR_get h.2 x a hx

def allNone : List (Option (List L)) → Bool
  | [] => true
  | none :: r => allNone r
  | some _ :: _ => false

theorem allNone_get : ∀ {l : List (Option (List L))}, allNone l = true → ∀ (j : Nat) (cs : List L), l[j]? ≠ some (some cs)
  | [], _, j, cs, h => by simp at h
  | none :: l, hl, j, cs, h => by
    cases j with
    | zero => simp at h
    | succ j => exact allNone_get (l := l) hl j cs (by simpa using h)
  | some _ :: l, hl, j, cs, h => by simp [allNone] at hl

def gOut (T : Tmpl) (c : Nat) (ins : List A) (g : G) : G :=
  { g with ssa := outs c ins g.n T.nout ++ g.ssa, n := g.n + T.nout, asm := match T.hasPre with | true => .pre c ins :: g.asm | false => g.asm }

/-- a call by its template -/
def inst (T : Tmpl) (c : Nat) (M : Mem) (g : G) (args : List S) : Option R :=
  match mSs T.args args ⟨[], []⟩ with
  | none => none
  | some b0 =>
    match mMem M T.mem 0 b0 with
    | none => none
    | some b =>
      match insOf b T.nin 0, segs M b T.mem 0, keysLt T.nin b.is && keysLtR T.mem.length b.rs with
      | some ins, some sg, true =>
        let u : Sub := ⟨T.nin, ins, g.n, T.mem.length, b.rs, M.length⟩
        match disjB sg, subS u T.ret, subM u T.news with
        | true, some s, some nw =>
          match allNone T.upd && Nat.beq T.upd.length T.mem.length with
          | true => some ⟨s, .quiet nw, gOut T c ins g⟩
          | false =>
            match updM u sg T.upd M with
            | some (M', ws) => some ⟨s, .write (M' ++ nw) ws, { gOut T c ins g with wr := ws ++ g.wr }⟩
            | none => none
        | _, _, _ => none
      | _, _, _ => none

/-- what a call comes to, a function with a body or one of the model's own -/
def Invokes (P : Program) (f : FuncId) (args : Array Value) (w : World) (K : Ending → World → Prop) : Prop :=
  match (callFunc f args).run P w with
  | .ok (.value v) w' => K (.returned v) w'
  | .ok (.enter f' args') w' => Calls P f' args' w' K
  | _ => False

/-- the cells that a template writes -/
def UpdAt (σ : Plc) (T : Tmpl) (b o : Nat) : Prop := ∃ (r : Nat) (p : Nat × Nat) (cs : List L), T.upd[r]? = some (some cs) ∧ σ r = some p ∧ b = p.1 ∧ p.2 ≤ o ∧ o < p.2 + cs.length

structure TPost (base : Nat) (E : Env) (σ : Plc) (T : Tmpl) (w : World) (v : Value) (w' : World) (σ' : Plc) : Prop where
  same : ∀ r, r < T.mem.length → σ' r = σ r
  free : ∀ r, T.mem.length + T.news.length ≤ r → σ' r = none
  den : T.ret.Den E σ' v
  upd : ∀ (r : Nat) (cs : List L) (p : Nat × Nat), T.upd[r]? = some (some cs) → σ r = some p → CellsAt E σ' w' p cs
  news : News base E σ' T.mem.length T.news w w'
  ev : Ev (UpdAt σ T) w w'

structure TPre (F : Fns) (pr : Prs) (gv : Nat → Value) (I : World → Prop) (base c : Nat) (T : Tmpl) (E : Env) (σ : Plc) (w : World) (args : List Value) : Prop where
  gv : E.gv = gv
  inv : I w
  ble : base ≤ w.heap.size
  out : ∀ j, j < T.nout → E.ρ (T.nin + j) = (F c ((List.range T.nin).map E.ρ)).getD j 0
  pre : T.hasPre = true → pr c ((List.range T.nin).map E.ρ)
  free : ∀ r, T.mem.length ≤ r → σ r = none
  rep : MRep base E σ T.mem w
  args : All2 (S.Den E σ) T.args args

/-- the template says what calls of the function come to -/
def TSound (P : Program) (F : Fns) (pr : Prs) (gv : Nat → Value) (I : World → Prop) (base c : Nat) (T : Tmpl) : Prop :=
  ∀ (E : Env) (σ : Plc) (w : World) (args : List Value), TPre F pr gv I base c T E σ w args →
    Invokes P T.f ⟨args⟩ w fun e w' => ∃ v σ', e = .returned v ∧ TPost base E σ T w v w' σ'

theorem Invokes.mono {P : Program} {f : FuncId} {args : Array Value} {w : World} {K K' : Ending → World → Prop} (h : Invokes P f args w K) (hk : ∀ e w', K e w' → K' e w') : Invokes P f args w K' := by
  unfold Invokes at *
  split at h
  · exact hk _ _ h
  · exact Calls.mono h hk
  · exact h.elim

theorem inst_sound {P : Program} {F : Fns} {pr : Prs} {I : World → Prop} {base c : Nat} {T : Tmpl} {E : Env} {σ : Plc} {M : Mem} {w : World} {g : G} {args : List S} {vals : List Value} {r : R}
    (hT : TSound P F pr E.gv I base c T) (h : inst T c M g args = some r) (hs : Sat F E.ρ r.g.ssa) (hh : Hold pr E.ρ r.g.asm) (ha : All2 (S.Den E σ) args vals)
    (hm : MRep base E σ M w) (hI : I w) (hb : base ≤ w.heap.size) (hf : Free σ M r.eff) :
    g.le r.g ∧ Invokes P T.f ⟨vals⟩ w fun e w' => ∃ v, e = .returned v ∧ Post base E σ M w r v w' := by
  unfold inst at h
  split at h
  · cases h
  rename_i b0 hb0
  split at h
  · cases h
  rename_i b hbm
  split at h
  case h_2 => cases h
  rename_i ins sg hins hsg hkeys
  simp only [Bool.and_eq_true] at hkeys
  obtain ⟨hk1, hk2⟩ := hkeys
  simp only [] at h
  split at h
  case h_2 => cases h
  rename_i s nw hdis hret hnw
  obtain ⟨hil, hig⟩ := insOf_get hins
  obtain ⟨hsl, hsgg⟩ := segs_get hsg
  -- the inner state
  let Et : Env := ⟨fun x => if x < T.nin then ((ins[x]?).getD (.l 0)).ev E.ρ else E.ρ (g.n + (x - T.nin)), E.gv⟩
  let σt : Plc := fun x => if x < T.mem.length then (lkR b.rs x).bind fun (q, o) => (σ q).map fun p => (p.1, p.2 + o) else none
  have hseen : Seen E σ Et σt b := by
    refine ⟨rfl, ?_, ?_⟩
    · intro x a hx
      have hlt := keysLt_get hk1 x a hx
      obtain ⟨a', ha', hk⟩ := hig x hlt
      rw [Nat.zero_add, hx] at hk
      cases hk
      show (if x < T.nin then _ else _) = _
      rw [if_pos hlt, ha']; rfl
    · intro x q o hx p hp
      have hlt := keysLtR_get hk2 x _ hx
      show (if x < T.mem.length then _ else _) = _
      rw [if_pos hlt, hx]
      simp [hp]
  -- the template's regions
  have hreg : ∀ (j : Nat) (cs : List L), T.mem[j]? = some cs → ∃ (q o : Nat) (ds : List L), sg[j]? = some (q, o, cs.length) ∧ lkR b.rs j = some (q, o) ∧ M[q]? = some ds ∧ o + cs.length ≤ ds.length := by
    intro j cs hj
    obtain ⟨q, o, ds, a1, a2, a3, a4⟩ := hsgg j cs hj
    rw [Nat.zero_add] at a2
    exact ⟨q, o, ds, a1, a2, a3, a4⟩
  have hσt : ∀ j p, σt j = some p → j < T.mem.length ∧ ∃ q o p0, lkR b.rs j = some (q, o) ∧ σ q = some p0 ∧ p = (p0.1, p0.2 + o) := by
    intro j p hj
    have hj' : (if j < T.mem.length then (lkR b.rs j).bind fun (q, o) => (σ q).map fun p => (p.1, p.2 + o) else none) = some p := hj
    split at hj'
    · rename_i hlt
      cases hl : lkR b.rs j with
      | none => rw [hl] at hj'; cases hj'
      | some qo =>
        obtain ⟨q, o⟩ := qo
        rw [hl] at hj'
        simp only [Option.bind_some, Option.map_eq_some_iff] at hj'
        obtain ⟨p0, hp0, rfl⟩ := hj'
        exact ⟨hlt, q, o, p0, rfl, hp0, rfl⟩
    · cases hj'
  have hadr : ∀ (p0 : Nat × Nat) (o i : Nat), adr (p0.1, p0.2 + o) i = adr p0 (o + i) := by
    intro p0 o i; simp [adr, Nat.add_assoc]
  -- what both ends share
  have hssa : (∀ x ∈ (gOut T c ins g).ssa, x ∈ r.g.ssa) ∧ (∀ x ∈ (gOut T c ins g).asm, x ∈ r.g.asm) ∧ g.le r.g := by
    have hle : g.le (gOut T c ins g) := by
      refine ⟨fun x hx => ?_, fun x hx => ?_, fun x hx => hx⟩
      · simp only [gOut]; exact List.mem_append_right _ hx
      · simp only [gOut]; split
        · exact List.mem_cons_of_mem _ hx
        · exact hx
    split at h
    · cases h; exact ⟨fun _ h => h, fun _ h => h, hle⟩
    · split at h
      · cases h
        exact ⟨fun _ h => h, fun _ h => h, G.le_trans hle ⟨fun _ h => h, fun _ h => h, fun x hx => List.mem_append_right _ hx⟩⟩
      · cases h
  obtain ⟨hsa, hasm, hgle⟩ := hssa
  refine ⟨hgle, ?_⟩
  have hinsmap : (List.range T.nin).map Et.ρ = ins.map (A.ev E.ρ) := by
    apply List.ext_getElem?
    intro i
    simp only [List.getElem?_map]
    by_cases hi : i < T.nin
    · obtain ⟨a, ha', _⟩ := hig i hi
      rw [List.getElem?_range hi, ha']
      show some (if i < T.nin then _ else _) = _
      rw [if_pos hi, ha']; rfl
    · rw [List.getElem?_eq_none (by simp; omega), List.getElem?_eq_none (by omega)]
      rfl
  have hout : ∀ j, j < T.nout → Et.ρ (T.nin + j) = (F c ((List.range T.nin).map Et.ρ)).getD j 0 := by
    intro j hj
    rw [hinsmap]
    have := hs _ (hsa _ (List.mem_append_left _ (outs_mem (c := c) (ins := ins) (n0 := g.n) hj)))
    show (if T.nin + j < T.nin then _ else E.ρ (g.n + (T.nin + j - T.nin))) = _
    rw [if_neg (by omega), show T.nin + j - T.nin = j from by omega]
    exact this
  have hpre : TPre F pr E.gv I base c T Et σt w vals := by
    refine ⟨rfl, hI, hb, hout, ?_, ?_, ⟨?_, ?_, ?_, ?_⟩, mSs_den hb0 (hseen.mono (mMem_le hbm)) ha⟩
    · intro hp
      have := hh (.pre c ins) (hasm _ (by simp [gOut, hp]))
      rw [hinsmap]; exact this
    · intro x hx
      show (if x < T.mem.length then _ else _) = _
      rw [if_neg (by omega)]
    · intro j p cs hj hcs
      obtain ⟨hlt, q, o, p0, hl, hp0, rfl⟩ := hσt j p hj
      obtain ⟨q', o', ds, a1, a2, _, a3⟩ := mMem_get hbm hseen j cs hcs
      rw [Nat.zero_add, hl] at a1
      cases a1
      intro i c' hc'
      obtain ⟨d, hd, hden⟩ := a3 i c' hc'
      obtain ⟨v, v1, v2, v3⟩ := hm.rep q p0 ds hp0 a2 _ d hd
      rw [hadr]
      exact ⟨v, v1, hden v v2, v3⟩
    · intro j j' p p' cs cs' hne hj hj' hcs hcs' i i' hi hi' heq
      obtain ⟨_, q, o, p0, hl, hp0, rfl⟩ := hσt j p hj
      obtain ⟨_, q', o', p0', hl', hp0', rfl⟩ := hσt j' p' hj'
      obtain ⟨q1, o1, ds, b1, b2, b3, b4⟩ := hreg j cs hcs
      obtain ⟨q1', o1', ds', b1', b2', b3', b4'⟩ := hreg j' cs' hcs'
      rw [hl] at b2; cases b2
      rw [hl'] at b2'; cases b2'
      by_cases e : q = q'
      · subst e
        rw [hp0] at hp0'; cases hp0'
        have := disjB_get hdis j j' _ _ hne b1 b1' rfl
        simp only [] at this
        show p0.2 + o + i ≠ p0.2 + o' + i'
        omega
      · have := hm.dis q q' p0 p0' ds ds' e hp0 hp0' b3 b3' (o + i) (o' + i') (by omega) (by omega) heq
        show p0.2 + o + i ≠ p0'.2 + o' + i'
        omega
    · intro j p hj
      obtain ⟨_, q, o, p0, hl, hp0, rfl⟩ := hσt j p hj
      exact hm.bas q p0 hp0
    · intro j p hj
      obtain ⟨_, q, o, p0, hl, hp0, rfl⟩ := hσt j p hj
      exact hm.lt q p0 hp0
  refine (hT Et σt w vals hpre).mono ?_
  rintro e w' ⟨v, σt', rfl, hpost⟩
  refine ⟨v, rfl, ?_⟩
  obtain ⟨hnl, hng⟩ := subM_get hnw
  -- the outer places behind the call
  let σ' : Plc := fun x => if x < M.length then σ x else if x < M.length + T.news.length then σt' (T.mem.length + (x - M.length)) else σ x
  have hσold : ∀ x, x < M.length → σ' x = σ x := fun x hx => by show (if x < M.length then _ else _) = _; rw [if_pos hx]
  have hσnew : ∀ j, j < T.news.length → σ' (M.length + j) = σt' (T.mem.length + j) := by
    intro j hj
    show (if M.length + j < M.length then _ else if M.length + j < M.length + T.news.length then _ else _) = _
    rw [if_neg (by omega), if_pos (by omega), show M.length + j - M.length = j from by omega]
  have hσfar : ∀ x, M.length + T.news.length ≤ x → σ' x = σ x := by
    intro x hx
    show (if x < M.length then _ else if x < M.length + T.news.length then _ else _) = _
    rw [if_neg (by omega), if_neg (by omega)]
  have hlkM : ∀ j q o, lkR b.rs j = some (q, o) → j < T.mem.length → q < M.length := by
    intro j q o hl hj
    obtain ⟨q1, o1, ds, b1, b2, b3, b4⟩ := hreg j _ (List.getElem?_eq_getElem hj)
    rw [hl] at b2; cases b2
    exact lt_of_get b3
  have hsub : SubOk ⟨T.nin, ins, g.n, T.mem.length, b.rs, M.length⟩ Et σt' E σ' := by
    refine ⟨rfl, ?_, ?_⟩
    · intro a a' ha'
      cases a with
      | l n => simp [subA] at ha'; subst ha'; rfl
      | v x =>
        simp only [subA] at ha'
        split at ha'
        · rename_i hlt
          have hlt : x < T.nin := Nat.le_of_ble_eq_true hlt
          show (if x < T.nin then _ else _) = _
          rw [if_pos hlt, ha']; rfl
        · rename_i hlt
          have hlt : ¬ x < T.nin := by
            intro hc
            have : Nat.blt x T.nin = true := Nat.ble_eq_true_of_le hc
            rw [this] at hlt; cases hlt
          cases ha'
          show (if x < T.nin then _ else _) = _
          rw [if_neg hlt]; rfl
    · intro x off q o hx p hp
      simp only [subR] at hx
      split at hx
      · rename_i hlt
        have hlt : x < T.mem.length := Nat.le_of_ble_eq_true hlt
        split at hx
        · rename_i q1 o1 hl
          cases hx
          rw [hpost.same x hlt] at hp
          obtain ⟨_, q2, o2, p0, hl2, hp0, rfl⟩ := hσt x p hp
          rw [hl] at hl2; cases hl2
          refine ⟨p0, by rw [hσold _ (hlkM x q o1 hl hlt)]; exact hp0, ?_⟩
          exact hadr p0 o1 off
        · cases hx
      · rename_i hlt
        have hlt : ¬ x < T.mem.length := by
          intro hc
          have : Nat.blt x T.mem.length = true := Nat.ble_eq_true_of_le hc
          rw [this] at hlt; cases hlt
        cases hx
        have hin : x - T.mem.length < T.news.length := by
          rcases Nat.lt_or_ge (x - T.mem.length) T.news.length with h' | h'
          · exact h'
          · rw [hpost.free x (by omega)] at hp; cases hp
        refine ⟨p, ?_, rfl⟩
        rw [hσnew _ hin, show T.mem.length + (x - T.mem.length) = x from by omega]
        exact hp
  have hnews : News base E σ' M.length nw w w' := by
    refine ⟨?_, ?_⟩
    · intro j cs hj
      obtain ⟨c0, hc0, hcs⟩ := hng j cs hj
      obtain ⟨p, p1, p2, p3, p4⟩ := hpost.news.at_ j c0 hc0
      exact ⟨p, by rw [hσnew j (lt_of_get hc0)]; exact p1, p2, p3, subLs_cells hsub hcs p4⟩
    · intro i j p q cs1 cs2 hi hj hne hp hq
      obtain ⟨c1, hc1, hcs1⟩ := hng i cs1 hi
      obtain ⟨c2, hc2, hcs2⟩ := hng j cs2 hj
      rw [hσnew i (lt_of_get hc1)] at hp
      rw [hσnew j (lt_of_get hc2)] at hq
      rw [← (subLs_get hsub hcs1).1, ← (subLs_get hsub hcs2).1]
      exact hpost.news.apart i j p q c1 c2 hc1 hc2 hne hp hq
  have hden : s.Den E σ' v := subS_den hsub hret hpost.den
  split at h
  · -- quiet
    rename_i hq
    simp only [Bool.and_eq_true] at hq
    cases h
    have hfr : ∀ j, j < nw.length → σ (M.length + j) = none := hf
    refine ⟨σ', ?_, ?_, hden, hnews, ?_⟩
    · intro i hi
      rcases hi with hi | hi
      · exact hσold i hi
      · exact hσfar i (by omega)
    · intro x p hx
      by_cases h1 : x < M.length
      · rw [hσold x h1]; exact hx
      · by_cases h2 : x < M.length + T.news.length
        · have := hfr (x - M.length) (by omega)
          rw [show M.length + (x - M.length) = x from by omega, hx] at this; cases this
        · rw [hσfar x (by omega)]; exact hx
    · refine Ev.trans (Ev.refl (fun _ _ => False) w) hpost.ev (fun _ _ _ h => h) ?_
      rintro x o _ ⟨j, p, cs, hj, _⟩
      exact allNone_get hq.1 j cs hj
  · split at h
    case h_2 => cases h
    rename_i M' ws hup
    cases h
    have hfr : ∀ i, M.length ≤ i → σ i = none := hf
    have hML := updM_len hup
    obtain ⟨hws, hlen⟩ := updM_ws hup
    have hle : σ.le σ' := by
      intro x p hx
      by_cases h1 : x < M.length
      · rw [hσold x h1]; exact hx
      · rw [hfr x (by omega)] at hx; cases hx
    -- where the template's writes lie
    have hupd : ∀ x o, UpdAt σt T x o → ∃ (j q oo : Nat) (p0 : Nat × Nat) (ds cs : List L), T.upd[j]? = some (some cs) ∧ sg[j]? = some (q, oo, cs.length) ∧ lkR b.rs j = some (q, oo) ∧ σ q = some p0 ∧ M[q]? = some ds ∧
        oo + cs.length ≤ ds.length ∧ x = p0.1 ∧ p0.2 + oo ≤ o ∧ o < p0.2 + oo + cs.length := by
      rintro x o ⟨j, p, cs, hj, hp, rfl, h1, h2⟩
      obtain ⟨hlt, q, oo, p0, hl, hp0, rfl⟩ := hσt j p hp
      obtain ⟨q1, o1, ds, b1, b2, b3, b4⟩ := hreg j _ (List.getElem?_eq_getElem hlt)
      rw [hl] at b2; cases b2
      have := (hws j _ cs b1 hj).2
      simp only [] at this
      rw [← this] at b1 b4
      exact ⟨j, q, oo, p0, ds, cs, hj, b1, hl, hp0, b3, b4, rfl, h1, by omega⟩
    have hσlt : ∀ i p, σ' i = some p → i < M.length ∨ ∃ j, j < T.news.length ∧ i = M.length + j := by
      intro i p hi
      by_cases h1 : i < M.length
      · exact .inl h1
      · by_cases h2 : i < M.length + T.news.length
        · exact .inr ⟨i - M.length, by omega, by omega⟩
        · rw [hσfar i (by omega), hfr i (by omega)] at hi; cases hi
    have hnewp : ∀ j p, j < T.news.length → σ' (M.length + j) = some p → w.heap.size ≤ p.1 ∧ p.1 < w'.heap.size ∧ ∃ cs, nw[j]? = some cs ∧ CellsAt E σ' w' p cs := by
      intro j p hj hp
      have hj' : j < nw.length := by omega
      obtain ⟨q, q1, q2, q3, q4⟩ := hnews.at_ j _ (List.getElem?_eq_getElem hj')
      rw [hp] at q1; cases q1
      exact ⟨q2, q3, _, List.getElem?_eq_getElem hj', q4⟩
    refine ⟨σ', hσold, hle, ?_, ?_, by simp [hML], ?_, ?_, hden, ⟨?_, ?_, ?_, ?_⟩, ?_⟩
    · intro i hi
      simp only [List.length_append, hML, ← hnl] at hi
      rw [hσfar i hi, hfr i (by omega)]
    · intro i p hi hp
      rcases hσlt i p hp with h1 | ⟨j, hj, rfl⟩
      · omega
      · exact (hnewp j p hj hp).1
    · intro i hi1 hi2
      simp only [List.length_append, hML] at hi2
      obtain ⟨q, q1, _⟩ := hnews.at_ (i - M.length) _ (List.getElem?_eq_getElem (by omega))
      rw [show M.length + (i - M.length) = i from by omega] at q1
      exact ⟨q, q1⟩
    · intro i cs cs' hcs hcs'
      have hi := lt_of_get hcs
      rw [List.getElem?_append_left (by omega)] at hcs'
      obtain ⟨ds, d1, d2, _⟩ := updM_look hup i cs' hcs'
      rw [hcs] at d1; cases d1
      exact d2
    · -- the cells
      intro q p cs hq hcs
      rcases hσlt q p hq with h1 | ⟨j, hj, rfl⟩
      · rw [List.getElem?_append_left (by omega)] at hcs
        rw [hσold q h1] at hq
        obtain ⟨ds, d1, d2, d3⟩ := updM_look hup q cs hcs
        have hold := hm.rep q p ds hq d1
        intro i c' hc'
        rcases d3 i c' hc' with ⟨j, o, len, c1, c2, a1, a2, a3, a4, a5, a6⟩ | ⟨b1, b2⟩
        · have hjl : j < T.mem.length := by rw [← hsl]; exact lt_of_get a1
          obtain ⟨q1, o1, ds1, e1, e2, e3, e4⟩ := hreg j _ (List.getElem?_eq_getElem hjl)
          rw [a1] at e1
          cases e1
          have hσj : σt j = some (p.1, p.2 + o) := hseen.rs j q o e2 p hq
          have := hpost.upd j c1 _ a2 hσj
          obtain ⟨v', v1, v2, v3⟩ := subLs_cells hsub a3 this _ _ a6
          rw [hadr, show o + (i - o) = i from by omega] at v1 v3
          exact ⟨v', v1, v2, v3⟩
        · obtain ⟨v', v1, v2, v3⟩ := hold i c' b1
          have hlt := World.block_lt_of_cell? w (adr p i) v1
          refine ⟨v', ?_, v2.mono hle, ?_⟩
          · rw [← v1]
            refine hpost.ev.cell p.1 (p.2 + i) hlt ?_
            intro hu
            obtain ⟨j, q2, oo, p0, ds2, cs2, u1, u2, u3, u4, u5, u6, u7, u8, u9⟩ := hupd _ _ hu
            by_cases e : q2 = q
            · subst e
              rw [hq] at u4; cases u4
              exact b2 j oo cs2.length cs2 u2 u1 ⟨by omega, by omega⟩
            · have hi := lt_of_get b1
              exact hm.dis q2 q p0 p ds2 ds e u4 hq u5 d1 (p.2 + i - p0.2) i (by omega) hi u7.symm (by omega)
          · rw [← v3]; exact hpost.ev.frz p.1 (p.2 + i) hlt
      · rw [List.getElem?_append_right (by omega), hML, show M.length + j - M.length = j from by omega] at hcs
        obtain ⟨_, _, cs', c1, c2⟩ := hnewp j p hj hq
        rw [hcs] at c1; cases c1
        exact c2
    · intro x y p p' cs cs' hne hx hy hcs hcs' i j hi hj heq
      have old : ∀ z pz cz, z < M.length → σ' z = some pz → (M' ++ nw)[z]? = some cz → σ z = some pz ∧ ∃ dz, M[z]? = some dz ∧ dz.length = cz.length := by
        intro z pz cz hz hσz hcz
        rw [hσold z hz] at hσz
        rw [List.getElem?_append_left (by omega)] at hcz
        obtain ⟨ds, d1, d2, _⟩ := updM_look hup z cz hcz
        exact ⟨hσz, ds, d1, d2.symm⟩
      rcases hσlt x p hx with h1 | ⟨a, ha', rfl⟩
      · obtain ⟨o1, d, o2, o3⟩ := old x p cs h1 hx hcs
        rcases hσlt y p' hy with h2 | ⟨b', hb', rfl⟩
        · obtain ⟨o1', d', o2', o3'⟩ := old y p' cs' h2 hy hcs'
          exact hm.dis x y p p' d d' hne o1 o1' o2 o2' i j (by omega) (by omega) heq
        · have := hm.lt x p o1
          have := (hnewp b' p' hb' hy).1
          omega
      · rcases hσlt y p' hy with h2 | ⟨b', hb', rfl⟩
        · obtain ⟨o1', d', o2', o3'⟩ := old y p' cs' h2 hy hcs'
          have := hm.lt y p' o1'
          have := (hnewp a p ha' hx).1
          omega
        · rw [List.getElem?_append_right (by omega), hML, show M.length + a - M.length = a from by omega] at hcs
          rw [List.getElem?_append_right (by omega), hML, show M.length + b' - M.length = b' from by omega] at hcs'
          exact hnews.apart a b' p p' cs cs' hcs hcs' (by omega) hx hy i j hi hj heq
    · intro x p hx
      rcases hσlt x p hx with h1 | ⟨a, ha', rfl⟩
      · rw [hσold x h1] at hx; exact hm.bas x p hx
      · have := (hnewp a p ha' hx).1; omega
    · intro x p hx
      rcases hσlt x p hx with h1 | ⟨a, ha', rfl⟩
      · rw [hσold x h1] at hx; exact Nat.lt_of_lt_of_le (hm.lt x p hx) hpost.ev.size
      · exact (hnewp a p ha' hx).2.1
    · refine Ev.trans (Ev.refl (fun _ _ => False) w) hpost.ev (fun _ _ _ h => h.elim) ?_
      intro x o _ hu
      obtain ⟨j, q2, oo, p0, ds2, cs2, u1, u2, u3, u4, u5, u6, u7, u8, u9⟩ := hupd _ _ hu
      exact ⟨q2, p0, ds2, (hws j _ cs2 u2 u1).1, u4, u5, u7, by omega, by omega⟩

end Go.X

namespace Go.X

/-! ### the built-in functions -/

def ghostFn (g : Nat) : Nat := 1000000 + g

/-- a new block, and more behind what is said of it -/
theorem Post.allocX {base : Nat} {E : Env} {σ : Plc} {m : Mem} {w : World} {s : S} {g : G} {v : Value} {cs : List L} {vs rest : List Value} {T : TypeId}
    (hf : Free σ m (.quiet [cs])) (ha : All2 (L.Den E σ) cs vs) (h : s.Den E (σ.set m.length (w.heap.size, 0)) v) :
    Post base E σ m w ⟨s, .quiet [cs], g⟩ v (World.alloc { w with drawn := w.drawn + 1 } (.cells ⟨vs ++ rest⟩ T)) := by
  have h0 : σ m.length = none := hf 0 (by simp)
  refine ⟨σ.set m.length (w.heap.size, 0), ?_, Plc.le_set h0, h, ?_, (Ev.drew w (fun _ _ => False)).trans (Ev.alloc _ (fun _ _ => False) _) (fun _ _ _ h => h.elim) (fun _ _ _ h => h.elim)⟩
  · intro i hi
    unfold Plc.set
    rw [if_neg (by simp at hi; omega)]
  · refine ⟨?_, ?_⟩
    · intro j c hj
      cases j with
      | succ j => simp at hj
      | zero =>
        simp at hj; subst hj
        refine ⟨(w.heap.size, 0), by simp [Plc.set], Nat.le_refl _, by simp, ?_⟩
        intro i c hc
        obtain ⟨u, hu, hd⟩ := ha.get i c hc
        refine ⟨u, ?_, hd.mono (Plc.le_set h0), ?_⟩
        · show (World.alloc { w with drawn := w.drawn + 1 } (.cells ⟨vs ++ rest⟩ T)).cell? ⟨w.heap.size, 0 + i, none⟩ = some u
          have := World.cell?_alloc_new (w := { w with drawn := w.drawn + 1 }) ⟨vs ++ rest⟩ T (0 + i)
          refine this.trans ?_
          have hi : i < vs.length := (List.getElem?_eq_some_iff.1 hu).1
          rw [Nat.zero_add]
          have e : (⟨vs ++ rest⟩ : Array Value)[i]? = (vs ++ rest)[i]? := by simp
          rw [e, List.getElem?_append_left hi, hu]
        · exact World.frozen?_alloc_new (w := { w with drawn := w.drawn + 1 }) _ _ _
    · intro i j p q cs1 cs2 hi hj hne
      obtain ⟨h1, _⟩ := List.getElem?_eq_some_iff.1 hi
      obtain ⟨h2, _⟩ := List.getElem?_eq_some_iff.1 hj
      simp at h1 h2; omega

def stBuiltin (P : Program) (M : Mem) (g : G) (b : Builtin) (ts : List TypeId) (args : List S) : Option R :=
  match b, ts, args with
  | .len, t :: _, [.one (.lf (.slc _ _ len _))] => match P.underlying t with
    | some (.slice _) => some (.val (.one (.lf (.int .i64 (.l len)))) g)
    | _ => none
  | .len, t :: _, [.one (.lf (.gho k))] => match P.underlying t with
    | some (.slice _) => some (.val (.one (.lf (.int .i64 (g.push (.app (ghostFn k) [] 0)).1))) (g.push (.app (ghostFn k) [] 0)).2)
    | _ => none
  | .min, _, [.one (.lf (.int k (.l x))), .one (.lf (.int _ (.l y)))] => some (.val (.one (.lf (.int k (.l (if y < x then y else x))))) g)
  | .min, _, [.one (.lf (.int k x)), .one (.lf (.int _ y))] => some (.val (.one (.lf (.int k (g.push (.min x y)).1))) (g.push (.min x y)).2)
  | .max, _, [.one (.lf (.int k (.l x))), .one (.lf (.int _ (.l y)))] => some (.val (.one (.lf (.int k (.l (if y > x then y else x))))) g)
  | .max, _, [.one (.lf (.int k x)), .one (.lf (.int _ y))] => some (.val (.one (.lf (.int k (g.push (.max x y)).1))) (g.push (.max x y)).2)
  | .copy, t :: _, [.one (.lf (.slc r off len _)), .one (.lf (.slc r' off' len' _))] =>
    match P.underlying t, M[r]?, M[r']? with
    | some (.slice e), some cs, some cs' =>
      match szT P e, Nat.ble (off + Nat.min len' len) cs.length && Nat.ble (off' + Nat.min len' len) cs'.length && ((cs'.drop off').take (Nat.min len' len)).all L.plain with
      | some 1, true => some ⟨.one (.lf (.int .i64 (.l (Nat.min len' len)))), .write (M.set r (spl cs off ((cs'.drop off').take (Nat.min len' len)))) [r], { g with wr := r :: g.wr }⟩
      | _, _ => none
    | _, _, _ => none
  | .append, [t, t2], [.one (.lf (.slc r off len (some cap))), .one (.lf (.slc r' off' len' _))] =>
    match P.underlying t, M[r]?, M[r']? with
    | some (.slice e), some cs, some cs' =>
      match P.info? e with
      | some i => match i.zero, Nat.beq t t2 && Nat.beq i.size 1 && Nat.beq i.bytes 1 && Nat.ble (off + len) cs.length && Nat.ble (off' + len') cs'.length && Nat.blt cap (len + len') && Nat.ble (len + len') 1000000 with
        | some _, true => some ⟨.one (.lf (.slc M.length 0 (len + len') none)), .quiet [(cs.drop off).take len ++ (cs'.drop off').take len'], g⟩
        | _, _ => none
      | none => none
    | _, _, _ => none
  | _, _, _ => none

/-- every ghost is a slice of the length that its function tells -/
def GhostOk (F : Fns) (gv : Nat → Value) : Prop := ∀ k, ∃ a len cap, gv k = .slice a len cap ∧ (F (ghostFn k) []).getD 0 0 = (len : Int)

theorem stBuiltin_sound {P : Program} {F : Fns} {base : Nat} {E : Env} {σ : Plc} {M : Mem} {w : World} {g : G} {b : Builtin} {ts : Array TypeId} {args : List S} {vals : List Value} {r : R} {ty : TypeId} {cs : Array Bool}
    (h : stBuiltin P M g b ts.toList args = some r) (hG : GhostOk F E.gv) (hs : Sat F E.ρ r.g.ssa) (ha : All2 (S.Den E σ) args vals) (hm : MRep base E σ M w) (hf : Free σ M r.eff) :
    g.le r.g ∧ Comes1 P base E σ M w r (builtin b ts ty cs ⟨vals⟩) := by
  have t0 : ∀ t rest, ts.toList = t :: rest → ts[0]? = some t := by
    intro t rest e
    rw [← Array.getElem?_toList, e]; rfl
  unfold stBuiltin at h
  split at h
  · rename_i t rest r' off len c he
    split at h
    · rename_i e hu
      cases h
      cases ha with
      | @cons _ v _ _ h1 h2 =>
        cases h2
        obtain ⟨p, cc, hp, _, _, rfl⟩ := h1
        refine ⟨G.le_refl g, ?_⟩
        refine Comes1.value (s := Builtin.len_ ts ty _) (v := .int .i64 len) (w' := w) ?_ (Post.val rfl)
        simp [Builtin.len_, t0 _ _ he, run_und hu, goInt]
    · cases h
  · rename_i t rest k he
    split at h
    · rename_i e hu
      cases h
      cases ha with
      | @cons _ v _ _ h1 h2 =>
        cases h2
        have h1 : v = E.gv k := h1
        obtain ⟨a, len, cap, hg, hF⟩ := hG k
        rw [hg] at h1
        subst h1
        refine ⟨G.le_push g _, ?_⟩
        refine Comes1.value (s := Builtin.len_ ts ty _) (v := .int .i64 len) (w' := w) ?_ (Post.val ?_)
        · simp [Builtin.len_, t0 _ _ he, run_und hu, goInt]
        · show Value.int .i64 len = .int .i64 _
          rw [push_ev hs]
          simp only [Ins.ev, List.map_nil]
          rw [hF]
    · cases h
  · rename_i k x k' y
    cases h
    cases ha with
    | @cons _ v _ _ h1 h2 =>
      cases h2 with
      | @cons _ u _ _ h2 h3 =>
        cases h3
        have h1 : v = .int k x := h1
        have h2 : u = .int k' y := h2
        subst h1; subst h2
        refine ⟨G.le_refl g, Comes1.value (s := Builtin.min_ ts ty _) (v := .int k (if y < x then y else x)) (w' := w) ?_ (Post.val rfl)⟩
        simp [Builtin.min_, Builtin.min2, pure]
  · rename_i k x k' y _
    cases h
    cases ha with
    | @cons _ v _ _ h1 h2 =>
      cases h2 with
      | @cons _ u _ _ h2 h3 =>
        cases h3
        have h1 : v = .int k (x.ev E.ρ) := h1
        have h2 : u = .int k' (y.ev E.ρ) := h2
        subst h1; subst h2
        refine ⟨G.le_push g _, Comes1.value (s := Builtin.min_ ts ty _) (v := .int k (if y.ev E.ρ < x.ev E.ρ then y.ev E.ρ else x.ev E.ρ)) (w' := w) ?_ (Post.val ?_)⟩
        · simp [Builtin.min_, Builtin.min2, pure]
        · show Value.int k _ = .int k _
          rw [push_ev hs]; rfl
  · rename_i k x k' y
    cases h
    cases ha with
    | @cons _ v _ _ h1 h2 =>
      cases h2 with
      | @cons _ u _ _ h2 h3 =>
        cases h3
        have h1 : v = .int k x := h1
        have h2 : u = .int k' y := h2
        subst h1; subst h2
        refine ⟨G.le_refl g, Comes1.value (s := Builtin.max_ ts ty _) (v := .int k (if y > x then y else x)) (w' := w) ?_ (Post.val rfl)⟩
        simp [Builtin.max_, Builtin.max2, pure]
  · rename_i k x k' y _
    cases h
    cases ha with
    | @cons _ v _ _ h1 h2 =>
      cases h2 with
      | @cons _ u _ _ h2 h3 =>
        cases h3
        have h1 : v = .int k (x.ev E.ρ) := h1
        have h2 : u = .int k' (y.ev E.ρ) := h2
        subst h1; subst h2
        refine ⟨G.le_push g _, Comes1.value (s := Builtin.max_ ts ty _) (v := .int k (if y.ev E.ρ > x.ev E.ρ then y.ev E.ρ else x.ev E.ρ)) (w' := w) ?_ (Post.val ?_)⟩
        · simp [Builtin.max_, Builtin.max2, pure]
        · show Value.int k _ = .int k _
          rw [push_ev hs]; rfl
  · rename_i t rest r1 off len c r2 off' len' c' he
    split at h
    · rename_i e cs1 cs2 hu hc1 hc2
      split at h
      · rename_i hsz hok
        cases h
        simp only [Bool.and_eq_true] at hok
        obtain ⟨⟨e1, e2⟩, e3⟩ := hok
        have e1 := Nat.le_of_ble_eq_true e1
        have e2 := Nat.le_of_ble_eq_true e2
        refine ⟨⟨fun _ h => h, fun _ h => h, fun _ h => List.mem_cons_of_mem _ h⟩, ?_⟩
        cases ha with
        | @cons _ v _ _ h1 h2 =>
          cases h2 with
          | @cons _ u _ _ h2 h3 =>
            cases h3
            obtain ⟨p, cc, hp, _, _, rfl⟩ := h1
            obtain ⟨q, cc', hq, _, _, rfl⟩ := h2
            obtain ⟨vs, hl, hden, hcell, _⟩ := hm.seg hq hc2 off' (Nat.min len' len) e2
            have hst : ∀ x ∈ vs, storable x = true := by
              intro x hx
              obtain ⟨i, hi⟩ := List.mem_iff_getElem?.1 hx
              obtain ⟨c0, hc0, hd0⟩ := hden.getR i x hi
              exact L.Den.plain (List.all_eq_true.1 e3 c0 (List.mem_of_getElem? hc0)) hd0
            have hseg := hm.rep _ _ _ hp hc1
            obtain ⟨w', hr, hev, hcell', _⟩ := run_storeCells P p off vs 0 w hst (fun j hj => by
              obtain ⟨c, hc⟩ : ∃ c, cs1[off + j]? = some c := ⟨cs1[off + j]'(by omega), by simp⟩
              obtain ⟨v0, q1, _, q3⟩ := hseg _ _ hc
              exact ⟨⟨v0, q1⟩, q3⟩)
            have hnl : ((cs2.drop off').take (Nat.min len' len)).length = Nat.min len' len := by
              rw [hden.length_eq, hl]
            refine Comes1.value (s := Builtin.copy_ ts ty _) (v := .int .i64 (Nat.min len' len : Nat)) (w' := w') ?_ ⟨σ, WPost.store hm hf hp hc1 (by omega) hden hev hcell' rfl⟩
            have hrl := run_loadCells P w q off' vs hcell
            rw [hl] at hrl
            have hr' : (storeCells (adr p off) (⟨vs⟩ : Array Value).toList).run P w = .ok () w' := hr
            simp only [Builtin.copy_, t0 _ _ he]
            simp [run_und hu, Builtin.lenOf, Builtin.firstCells, run_sz hsz, hrl, hr', goInt]
      · cases h
    · cases h
  · rename_i t t2 r1 off len cap r2 off' len' c' he
    split at h
    · rename_i e cs1 cs2 hu hc1 hc2
      split at h
      · rename_i i hi
        split at h
        · rename_i z hz hok
          cases h
          simp only [Bool.and_eq_true] at hok
          obtain ⟨⟨⟨⟨⟨⟨k1, k2⟩, k3⟩, k4⟩, k5⟩, k6⟩, k7⟩ := hok
          have k1 := Nat.eq_of_beq_eq_true k1
          have k2 := Nat.eq_of_beq_eq_true k2
          have k3 := Nat.eq_of_beq_eq_true k3
          have k4 := Nat.le_of_ble_eq_true k4
          have k5 := Nat.le_of_ble_eq_true k5
          have k6 : cap < len + len' := Nat.le_of_ble_eq_true k6
          have k7 := Nat.le_of_ble_eq_true k7
          subst k1
          refine ⟨G.le_refl g, ?_⟩
          cases ha with
          | @cons _ v _ _ h1 h2 =>
            cases h2 with
            | @cons _ u _ _ h2 h3 =>
              cases h3
              obtain ⟨p, cc, hp, _, hcc, rfl⟩ := h1
              obtain ⟨q, cc', hq, _, _, rfl⟩ := h2
              have hcc := hcc cap rfl
              subst hcc
              obtain ⟨vs, hl, hden, hcell, _⟩ := hm.seg hp hc1 off len k4
              obtain ⟨us, hl', hden', hcell', _⟩ := hm.seg hq hc2 off' len' k5
              have hts : ts = #[t, t] := by rw [← Array.toArray_toList (xs := ts), he]
              have hadd : ∀ (p : Nat × Nat) (o j : Nat), (adr p o).add j = adr p (o + j) := fun p o j => adr_add p o j
              have hr := run_append_grow (P := P) w t ty e i z hu hi hz (adr p off) len cc vs (by rw [hl, k2, Nat.mul_one]) (fun j v hj => by rw [hadd]; exact hcell j v hj)
                (adr q off') len' cc' us (by rw [hl', k2, Nat.mul_one]) (fun j v hj => by rw [hadd]; exact hcell' j v hj) k6 (by omega)
                (growslice_fits k6 (by rw [k3]; omega))
              have hw : (w.drew.alloc (.cells (vs.toArray ++ us.toArray ++ Builtin.zeroCells z.cells (grownCap w (len + len') cc e - (len + len'))) e)) =
                  World.alloc { w with drawn := w.drawn + 1 } (.cells ⟨(vs ++ us) ++ (Builtin.zeroCells z.cells (grownCap w (len + len') cc e - (len + len'))).toList⟩ e) := by
                show World.alloc { w with drawn := w.drawn + 1 } _ = _
                congr 2
                apply Array.ext'
                simp
              rw [hw] at hr
              have hge := grownCap_ge w (len + len') cc e
              rw [← hts] at hr
              exact Comes1.value (s := Builtin.append_ ts ty _) hr (Post.allocX hf (All2.append hden hden') ⟨_, _, Plc.set_self _ _ _, hge, (fun c' h => by cases h), rfl⟩)
        · cases h
      · cases h
    · cases h
  · cases h

end Go.X

namespace Go.X

def isConstB : Operand → Bool
  | .const _ => true
  | _ => false

def capPtrs : List (Nat × Nat) → List S
  | [] => []
  | (r, o) :: t => .one (.lf (.ptr r o)) :: capPtrs t

def instAny (f : FuncId) (M : Mem) (g : G) (args : List S) : List Tmpl → Nat → Option R
  | [], _ => none
  | T :: ts, c =>
    match Nat.beq T.f f with
    | true => match inst T c M g args with
      | some r => some r
      | none => instAny f M g args ts (c + 1)
    | false => instAny f M g args ts (c + 1)

def stCall (P : Program) (ts : List Tmpl) (T : Tm) (M : Mem) (g : G) (c : Call) : Option R :=
  match c.callee with
  | .value f => match opd T f with
    | .one (.lf (.fn f caps)) => instAny f M g (c.args.toList.map (opd T) ++ capPtrs caps) ts 0
    | _ => none
  | .builtin b => stBuiltin P M g b c.argTypes.toList (c.args.toList.map (opd T))
  | .invoke _ _ => none

def opStep (P : Program) (ts : List Tmpl) (T : Tm) (M : Mem) (g : G) (o : Oper) : Option R :=
  match o.op with
  | .move x => some (.val (opd T x) g)
  | .assign x => some (.val (opd T x) g)
  | .pick c a b => stPick g (opd T c) (opd T a) (opd T b)
  | .alloc t => stAlloc P M g t
  | .box _ x => stBox M g (opd T x)
  | .build t ps => stBuild P g t (ps.toList.map fun x => (x.1, opd T x.2))
  | .buildSlice t n ps => stBuildSlice P M g t n (ps.toList.map fun x => (x.1, opd T x.2))
  | .load t a => stLoad P M g t (opd T a)
  | .store t a x => stStore P M g t (opd T a) (opd T x)
  | .nilCheck x => stNil g (opd T x)
  | .binOp op t x y _ => match stBin P g op t (opd T x) (opd T y) (isConstB y) with
    | some (s, g) => some (.val s g)
    | none => none
  | .unOp op _ x => stUn g op (opd T x)
  | .convert s d x => stConvert P M g s d (opd T x)
  | .sliceToArrayPointer t x => stArr P g t (opd T x)
  | .makeInterface t x => stIface P g t (opd T x)
  | .makeFunc f a b => stFunc g f (a.toList.map (opd T)) (b.toList.map (opd T))
  | .makeSlice t l c => stMakeSlice P M g t (opd T l) (opd T c)
  | .slice t x lo hi mx => stSlice P g t (opd T x) (lo.map (opd T)) (hi.map (opd T)) (mx.map (opd T))
  | .fieldAddr t x f => stFieldAddr P g t (opd T x) f
  | .indexAddr t x i => stIndexAddr P g t (opd T x) (opd T i)
  | .extract x i => stExtract g (opd T x) i
  | .call c => stCall P ts T M g c
  | _ => none

def WrOk (r : R) : Prop := match r.eff with | .quiet _ => True | .write _ ws => ∀ x ∈ ws, x ∈ r.g.wr

theorem Comes1.upon {P : Program} {base : Nat} {E : Env} {σ : Plc} {M : Mem} {w : World} {r : R} {s : Sem Next} {o : Oper} {a : Act} {next : Act → World → Prop} {Q : Exit → Act → World → Prop}
    (h : Comes1 P base E σ M w r s) (hn : ∀ v w', Post base E σ M w r v w' → next (a.put o.dst v) w') : o.upon P a next Q (s.run P w) := by
  obtain ⟨nx, v, w', hr, hnx, hp⟩ := h
  rw [hr]
  rcases hnx with rfl | ⟨rfl, rfl⟩
  · exact hn v w' hp
  · exact hn undef w' hp

theorem Invokes.upon {P : Program} {f : FuncId} {args : Array Value} {w : World} {o : Oper} {a : Act} {next : Act → World → Prop} {Q : Exit → Act → World → Prop} {K : Value → World → Prop}
    (h : Invokes P f args w fun e w' => ∃ v, e = .returned v ∧ K v w') (hn : ∀ v w', K v w' → next (a.put o.dst v) w') : o.upon P a next Q ((callFunc f args).run P w) := by
  unfold Invokes at h
  split at h
  · rename_i v w' hr
    rw [hr]
    obtain ⟨v', e, hk⟩ := h
    cases e
    exact hn _ _ hk
  · rename_i f' args' w' hr
    rw [hr, Oper.upon_enter]
    refine Calls.mono h ?_
    rintro e w'' ⟨v, rfl, hk⟩
    exact hn _ _ hk
  · exact h.elim

theorem inst_wr {T : Tmpl} {c : Nat} {M : Mem} {g : G} {args : List S} {r : R} (h : inst T c M g args = some r) : WrOk r := by
  unfold inst at h
  split at h
  · cases h
  split at h
  · cases h
  split at h
  case h_2 => cases h
  simp only [] at h
  split at h
  case h_2 => cases h
  split at h
  · cases h; trivial
  · split at h
    · cases h
      intro x hx
      exact List.mem_append_left _ hx
    · cases h

theorem instAny_sound {P : Program} {F : Fns} {pr : Prs} {I : World → Prop} {base : Nat} {f : FuncId} {E : Env} {σ : Plc} {M : Mem} {w : World} {g : G} {args : List S} {vals : List Value} {r : R} :
    ∀ {ts : List Tmpl} {c : Nat}, (∀ i T, ts[i]? = some T → TSound P F pr E.gv I base (c + i) T) → instAny f M g args ts c = some r → Sat F E.ρ r.g.ssa → Hold pr E.ρ r.g.asm → All2 (S.Den E σ) args vals →
      MRep base E σ M w → I w → base ≤ w.heap.size → Free σ M r.eff →
      g.le r.g ∧ WrOk r ∧ Invokes P f ⟨vals⟩ w fun e w' => ∃ v, e = .returned v ∧ Post base E σ M w r v w'
  | [], c, hT, h, _, _, _, _, _, _, _ => by simp [instAny] at h
  | T :: ts, c, hT, h, hs, hh, ha, hm, hI, hb, hf => by
    have hT' : ∀ i T, ts[i]? = some T → TSound P F pr E.gv I base (c + 1 + i) T := fun i T hi => by
      have := hT (i + 1) T (by simpa using hi)
      rwa [show c + (i + 1) = c + 1 + i from by omega] at this
    simp only [instAny] at h
    split at h
    · rename_i hf0
      have e := Nat.eq_of_beq_eq_true hf0
      subst e
      split at h
      · rename_i r' hr
        cases h
        obtain ⟨h1, h2⟩ := inst_sound (hT 0 T rfl) hr hs hh ha hm hI hb hf
        exact ⟨h1, inst_wr hr, h2⟩
      · exact instAny_sound hT' h hs hh ha hm hI hb hf
    · exact instAny_sound hT' h hs hh ha hm hI hb hf

theorem capPtrs_den {E : Env} {σ : Plc} : ∀ {cs : List (Nat × Nat)} {vs : List Value}, All2 (fun (c : Nat × Nat) u => ∃ p, σ c.1 = some p ∧ u = Value.pointer (some (adr p c.2))) cs vs → All2 (S.Den E σ) (capPtrs cs) vs
  | [], vs, h => by cases h; exact .nil
  | (r, o) :: cs, vs, h => by
    cases h with
    | cons h1 h2 => exact .cons h1 (capPtrs_den h2)

theorem opds_den {E : Env} {σ : Plc} {T : Tm} {ρ : Operand → Value} : ∀ (xs : List Operand), (∀ x ∈ xs, (opd T x).Den E σ (ρ x)) → All2 (S.Den E σ) (xs.map (opd T)) (xs.map ρ)
  | [], _ => .nil
  | x :: xs, h => .cons (h x (by simp)) (opds_den xs fun y hy => h y (by simp [hy]))

theorem parts_den {E : Env} {σ : Plc} {T : Tm} {ρ : Operand → Value} : ∀ (xs : List (Nat × Operand)), (∀ x ∈ xs, (opd T x.2).Den E σ (ρ x.2)) →
    All2 (fun (x : Nat × S) (y : Nat × Value) => x.1 = y.1 ∧ x.2.Den E σ y.2) (xs.map fun x => (x.1, opd T x.2)) (xs.map fun x => (x.1, ρ x.2))
  | [], _ => .nil
  | x :: xs, h => .cons ⟨rfl, h x (by simp)⟩ (parts_den xs fun y hy => h y (by simp [hy]))

theorem oopd_den {E : Env} {σ : Plc} {T : Tm} {ρ : Operand → Value} (x : Option Operand) (h : ∀ y, x = some y → (opd T y).Den E σ (ρ y)) : ODen E σ (x.map (opd T)) (x.map ρ) := by
  cases x with
  | none => trivial
  | some x => exact h x rfl

theorem stBuiltin_wr {P : Program} {M : Mem} {g : G} {b : Builtin} {ts : List TypeId} {args : List S} {r : R} (h : stBuiltin P M g b ts args = some r) : WrOk r := by
  unfold stBuiltin at h
  split at h
  · split at h <;> cases h; trivial
  · split at h <;> cases h; trivial
  · cases h; trivial
  · cases h; trivial
  · cases h; trivial
  · cases h; trivial
  · split at h
    · split at h
      · cases h; intro x hx; simp at hx; subst hx; simp
      · cases h
    · cases h
  · split at h
    · split at h
      · split at h
        · cases h; trivial
        · cases h
      · cases h
    · cases h
  · cases h

theorem stStore_wr {P : Program} {m : Mem} {g : G} {t : TypeId} {x y : S} {r : R} (h : stStore P m g t x y = some r) : WrOk r := by
  unfold stStore at h
  split at h
  · split at h
    · split at h
      · cases h; intro x hx; simp at hx; subst hx; simp
      · cases h
    · cases h
  · cases h

/-- all that a step reads of the frame: its operands -/
theorem opStep_sound {P : Program} {F : Fns} {pr : Prs} {I : World → Prop} {base : Nat} {ts : List Tmpl} {T : Tm} {M : Mem} {g : G} {o : Oper} {E : Env} {σ : Plc} {w : World} {a : Act} {r : R}
    {next : Act → World → Prop} {Q : Exit → Act → World → Prop}
    (hT : ∀ i T, ts[i]? = some T → TSound P F pr E.gv I base i T) (hG : GhostOk F E.gv)
    (h : opStep P ts T M g o = some r) (hs : Sat F E.ρ r.g.ssa) (hh : Hold pr E.ρ r.g.asm) (hx : ∀ x ∈ o.op.operands, (opd T x).Den E σ (a.eval x)) (hm : MRep base E σ M w) (hI : I w) (hb : base ≤ w.heap.size) (hf : Free σ M r.eff)
    (hn : ∀ v w', Post base E σ M w r v w' → next (a.put o.dst v) w') : g.le r.g ∧ WrOk r ∧ o.wp P a w next Q := by
  unfold opStep at h
  have eo : ∀ x, x ∈ o.op.operands.toList → (opd T x).Den E σ (a.eval x) := fun x hx' => hx x (Array.mem_toList_iff.1 hx')
  clear hx
  unfold Oper.wp execOp
  cases hop : o.op with
  | move x =>
    simp only [hop] at h eo ⊢
    cases h
    have := eo x (by simp [Op.operands])
    exact ⟨G.le_refl g, trivial, hn _ _ (Post.val this)⟩
  | assign x =>
    simp only [hop] at h eo ⊢
    cases h
    have := eo x (by simp [Op.operands])
    exact ⟨G.le_refl g, trivial, hn _ _ (Post.val this)⟩
  | pick c x y =>
    simp only [hop] at h eo ⊢
    obtain ⟨h1, h2⟩ := stPick_sound (P := P) (base := base) (m := M) (w := w) h hs (eo c (by simp [Op.operands])) (eo x (by simp [Op.operands])) (eo y (by simp [Op.operands]))
    exact ⟨h1, by unfold stPick at h; (repeat' (split at h)) <;> first | (cases h; done) | (cases h; trivial), h2.upon hn⟩
  | alloc t =>
    simp only [hop] at h eo ⊢
    obtain ⟨h1, h2⟩ := stAlloc_sound (base := base) (E := E) (w := w) h hf
    exact ⟨h1, by unfold stAlloc at h; (repeat' (split at h)) <;> first | (cases h; done) | (cases h; trivial), h2.upon hn⟩
  | box t x =>
    simp only [hop] at h eo ⊢
    obtain ⟨h1, h2⟩ := stBox_sound (P := P) (base := base) (w := w) (t := t) h (eo x (by simp [Op.operands])) hf
    exact ⟨h1, by unfold stBox at h; (repeat' (split at h)) <;> first | (cases h; done) | (cases h; trivial), h2.upon hn⟩
  | build t ps =>
    simp only [hop] at h eo ⊢
    have hp := parts_den (ρ := a.eval) ps.toList (fun x hx => eo x.2 (by simp only [Op.operands]; exact List.mem_map_of_mem hx))
    obtain ⟨h1, h2⟩ := stBuild_sound (P := P) (base := base) (m := M) (w := w) (vals := ps.map fun x => (x.1, a.eval x.2)) h (by simpa using hp)
    exact ⟨h1, by unfold stBuild at h; (repeat' (split at h)) <;> first | (cases h; done) | (cases h; trivial), h2.upon hn⟩
  | buildSlice t n ps =>
    simp only [hop] at h eo ⊢
    have hp := parts_den (ρ := a.eval) ps.toList (fun x hx => eo x.2 (by simp only [Op.operands]; exact List.mem_map_of_mem hx))
    obtain ⟨h1, h2⟩ := stBuildSlice_sound (P := P) (base := base) (w := w) (vals := ps.map fun x => (x.1, a.eval x.2)) h (by simpa using hp) hf
    exact ⟨h1, by unfold stBuildSlice at h; (repeat' (split at h)) <;> first | (cases h; done) | (cases h; trivial), h2.upon hn⟩
  | load t x =>
    simp only [hop] at h eo ⊢
    obtain ⟨h1, h2⟩ := stLoad_sound (P := P) (F := F) (base := base) (w := w) h hs (eo x (by simp [Op.operands])) hm
    exact ⟨h1, by unfold stLoad at h; (repeat' (split at h)) <;> first | (cases h; done) | (cases h; trivial), h2.upon hn⟩
  | store t x y =>
    simp only [hop] at h eo ⊢
    obtain ⟨h1, h2⟩ := stStore_sound (P := P) (base := base) (w := w) h (eo x (by simp [Op.operands])) (eo y (by simp [Op.operands])) hm hf
    exact ⟨h1, stStore_wr h, h2.upon hn⟩
  | nilCheck x =>
    simp only [hop] at h eo ⊢
    have hd := eo x (by simp [Op.operands])
    unfold stNil at h
    split at h
    · rename_i r' off e
      cases h
      rw [e] at hd
      obtain ⟨p, hp, e2⟩ := hd
      rw [e2]
      exact ⟨G.le_refl g, trivial, hn _ _ (Post.val ⟨p, hp, rfl⟩)⟩
    · rename_i r' off s' i n e
      cases h
      rw [e] at hd
      obtain ⟨p, hp, h0, h1, e2⟩ := hd
      rw [e2]
      exact ⟨G.le_refl g, trivial, hn _ _ (Post.val ⟨p, hp, h0, h1, rfl⟩)⟩
    · cases h
  | binOp op t x y yt =>
    simp only [hop] at h eo ⊢
    split at h
    · rename_i s' g' hb'
      cases h
      obtain ⟨h1, v, h2, h3⟩ := stBin_sound (w := w) (xo := x) (yo := y) hb' (by intro hc; cases y <;> simp [isConstB] at hc; exact ⟨_, rfl⟩) hs hh (eo x (by simp [Op.operands])) (eo y (by simp [Op.operands]))
      exact ⟨h1, trivial, Comes1.upon (Comes1.value (s := binRun op t x y (a.eval x) (a.eval y)) h2 (Post.val h3)) hn⟩
    · cases h
  | unOp op t x =>
    simp only [hop] at h eo ⊢
    obtain ⟨h1, h2⟩ := stUn_sound (P := P) (base := base) (m := M) (w := w) h hs (eo x (by simp [Op.operands]))
    exact ⟨h1, by unfold stUn at h; (repeat' (split at h)) <;> first | (cases h; done) | (cases h; trivial), h2.upon hn⟩
  | convert s d x =>
    simp only [hop] at h eo ⊢
    obtain ⟨h1, h2⟩ := stConvert_sound (P := P) (F := F) (base := base) (w := w) h hs (eo x (by simp [Op.operands])) hm
    exact ⟨h1, by unfold stConvert at h; (repeat' (split at h)) <;> first | (cases h; done) | (cases h; trivial), h2.upon hn⟩
  | sliceToArrayPointer t x =>
    simp only [hop] at h eo ⊢
    obtain ⟨h1, h2⟩ := stArr_sound (P := P) (base := base) (m := M) (w := w) h (eo x (by simp [Op.operands]))
    exact ⟨h1, by unfold stArr at h; (repeat' (split at h)) <;> first | (cases h; done) | (cases h; trivial), h2.upon hn⟩
  | makeInterface t x =>
    simp only [hop] at h eo ⊢
    obtain ⟨h1, h2⟩ := stIface_sound (P := P) (base := base) (m := M) (w := w) h (eo x (by simp [Op.operands]))
    exact ⟨h1, by unfold stIface at h; (repeat' (split at h)) <;> first | (cases h; done) | (cases h; trivial), h2.upon hn⟩
  | makeFunc f x y =>
    simp only [hop] at h eo ⊢
    have hp1 := opds_den (ρ := a.eval) x.toList (fun z hz => eo z (by simp [Op.operands]; exact .inl (by simpa using hz)))
    have hp2 := opds_den (ρ := a.eval) y.toList (fun z hz => eo z (by simp [Op.operands]; exact .inr (by simpa using hz)))
    obtain ⟨h1, h2⟩ := stFunc_sound (P := P) (base := base) (m := M) (w := w) (av := x.map a.eval) (bv' := y.map a.eval) h (by simpa using hp1) (by simpa using hp2)
    exact ⟨h1, by unfold stFunc at h; (repeat' (split at h)) <;> first | (cases h; done) | (cases h; trivial), h2.upon hn⟩
  | makeSlice t l c =>
    simp only [hop] at h eo ⊢
    obtain ⟨h1, h2⟩ := stMakeSlice_sound (P := P) (base := base) (w := w) h (eo l (by simp [Op.operands])) (eo c (by simp [Op.operands])) hf
    exact ⟨h1, by unfold stMakeSlice at h; (repeat' (split at h)) <;> first | (cases h; done) | (cases h; trivial), h2.upon hn⟩
  | slice t x lo hi mx =>
    simp only [hop] at h eo ⊢
    obtain ⟨h1, h2⟩ := stSlice_sound (P := P) (base := base) (m := M) (w := w) h (eo x (by simp [Op.operands])) (oopd_den (ρ := a.eval) lo (fun y hy => eo y (by simp [Op.operands, hy]))) (oopd_den (ρ := a.eval) hi (fun y hy => eo y (by simp [Op.operands, hy]))) (oopd_den (ρ := a.eval) mx (fun y hy => eo y (by simp [Op.operands, hy])))
    exact ⟨h1, by unfold stSlice at h; (repeat' (split at h)) <;> first | (cases h; done) | (cases h; trivial), h2.upon hn⟩
  | fieldAddr t x f =>
    simp only [hop] at h eo ⊢
    obtain ⟨h1, h2⟩ := stFieldAddr_sound (P := P) (base := base) (m := M) (w := w) h (eo x (by simp [Op.operands]))
    exact ⟨h1, by unfold stFieldAddr at h; (repeat' (split at h)) <;> first | (cases h; done) | (cases h; trivial), h2.upon hn⟩
  | indexAddr t x i =>
    simp only [hop] at h eo ⊢
    obtain ⟨h1, h2⟩ := stIndexAddr_sound (P := P) (base := base) (m := M) (w := w) h hs hh (eo x (by simp [Op.operands])) (eo i (by simp [Op.operands]))
    exact ⟨h1, by unfold stIndexAddr stIdx at h; (repeat' (split at h)) <;> first | (cases h; done) | (cases h; trivial), h2.upon hn⟩
  | extract x i =>
    simp only [hop] at h eo ⊢
    obtain ⟨h1, h2⟩ := stExtract_sound (P := P) (base := base) (m := M) (w := w) h (eo x (by simp [Op.operands]))
    exact ⟨h1, by unfold stExtract at h; (repeat' (split at h)) <;> first | (cases h; done) | (cases h; trivial), h2.upon hn⟩
  | call c =>
    simp only [hop] at h eo ⊢
    obtain ⟨callee, args, argTypes⟩ := c
    unfold stCall at h
    cases callee with
    | invoke x m => cases h
    | builtin b =>
      have hp := opds_den (ρ := a.eval) args.toList (fun z hz => eo z (by simp [Op.operands, Call.operands]; simpa using hz))
      obtain ⟨h1, h2⟩ := stBuiltin_sound (P := P) (F := F) (base := base) (w := w) (vals := args.toList.map a.eval) (ty := o.type) (cs := args.map fun | .const _ => true | _ => false) h hG hs hp hm hf
      refine ⟨h1, stBuiltin_wr h, ?_⟩
      have := h2.upon (a := a) (o := o) (Q := Q) hn
      simp only [resolve, Sem.run_bind, Sem.run_pure, Result.andThen_ok, invoke]
      have e : (⟨args.toList.map a.eval⟩ : Array Value) = args.map a.eval := by apply Array.toList_inj.1; simp
      rw [e] at this
      exact this
    | value f =>
      simp only [] at h
      have hd := eo f (by simp [Op.operands, Call.operands])
      split at h
      · rename_i f' caps e
        rw [e] at hd
        obtain ⟨vs, hv, hcaps⟩ := hd
        have hp := opds_den (ρ := a.eval) args.toList (fun z hz => eo z (by simp [Op.operands, Call.operands]; exact .inr (by simpa using hz)))
        obtain ⟨h1, h2, h3⟩ := instAny_sound (P := P) (F := F) (pr := pr) (I := I) (base := base) (c := 0) (w := w) (fun i T hi => by rw [Nat.zero_add]; exact hT i T hi) h hs hh (hp.append (capPtrs_den hcaps)) hm hI hb hf
        refine ⟨h1, h2, ?_⟩
        have := h3.upon (a := a) (o := o) (Q := Q) hn
        simp only [resolve, hv, Deferred.ofValue, Sem.run_bind, Sem.run_pure, Result.andThen_ok, invoke]
        have e : (⟨args.toList.map a.eval ++ vs⟩ : Array Value) = #[] ++ args.map a.eval ++ ⟨vs⟩ := by apply Array.toList_inj.1; simp
        rw [e] at this
        exact this
      · cases h
  | _ => simp only [hop] at h; cases h

end Go.X

namespace Go.X

def putT (nt : Nat) (T : Tm) (dst : Option Tmp) (s : S) : Option Tm :=
  match dst with
  | none => some T
  | some d => match Nat.blt d nt with | true => some ((d, s) :: T) | false => none

def effM (M : Mem) : Eff → Mem
  | .quiet news => M ++ news
  | .write M' _ => M'

/-- a bool that steers: a literal, or what the oracle says of it -/
def decideB (g : G) (a : A) : Option (Bool × G) :=
  match a with
  | .l n => some (n != 0, g)
  | .v x => match g.orc with
    | b :: rest => some (b, { g with orc := rest, asm := .cond (.v x) b :: g.asm })
    | [] => none

theorem decideB_sound {pr : Prs} {ρ : Nat → Int} {g g' : G} {a : A} {b : Bool} (h : decideB g a = some (b, g')) (hh : Hold pr ρ g'.asm) : (a.ev ρ != 0) = b ∧ g.le g' ∧ g'.wr = g.wr := by
  cases a with
  | l n => simp [decideB] at h; obtain ⟨rfl, rfl⟩ := h; exact ⟨rfl, G.le_refl _, rfl⟩
  | v x =>
    simp only [decideB] at h
    split at h
    · cases h
      exact ⟨hh (.cond (.v x) b) (by simp), ⟨fun _ h => h, fun _ h => List.mem_cons_of_mem _ h, fun _ h => h⟩, rfl⟩
    · cases h

/-- the bool in slot d, made a literal -/
def decideT (T : Tm) (g : G) (d : Nat) : Option (Bool × Tm × G) :=
  match lk T d with
  | .one (.lf (.bool (.l n))) => some (n != 0, T, g)
  | .one (.lf (.bool (.v x))) => match decideB g (.v x) with
    | some (b, g) => some (b, (d, .one (.lf (.bool (.l (b2i b))))) :: T, g)
    | none => none
  | _ => none

theorem lk_cons (u : Nat) (s : S) (T : Tm) (t : Nat) : lk ((u, s) :: T) t = if u = t then s else lk T t := by
  simp only [lk]
  by_cases e : u = t
  · subst e; rw [beq_tt]; simp
  · rw [beq_ff e]; simp [e]

theorem decideT_sound {pr : Prs} {E : Env} {σ : Plc} {T T' : Tm} {g g' : G} {d : Nat} {b : Bool} (h : decideT T g d = some (b, T', g')) (hh : Hold pr E.ρ g'.asm) :
    g.le g' ∧ g'.wr = g.wr ∧ (∀ v, (lk T d).Den E σ v → v = .bool b) ∧ ∀ t v, (lk T t).Den E σ v → (lk T' t).Den E σ v := by
  unfold decideT at h
  split at h
  · rename_i n e
    cases h
    refine ⟨G.le_refl _, rfl, ?_, fun _ _ h => h⟩
    intro v hv
    rw [e] at hv
    exact hv
  · rename_i x e
    split at h
    · rename_i b' g1 hd
      cases h
      obtain ⟨h1, h2, h3⟩ := decideB_sound hd hh
      have key : ∀ v, (lk T d).Den E σ v → v = .bool b := by
        intro v hv
        rw [e] at hv
        have hv : v = .bool ((A.v x).ev E.ρ != 0) := hv
        rw [h1] at hv; exact hv
      refine ⟨h2, h3, key, ?_⟩
      intro t v hv
      rw [lk_cons]
      by_cases ed : d = t
      · subst ed
        rw [if_pos rfl]
        show v = .bool (_ != 0)
        rw [key v hv, A.ev_l, b2i_ne]
      · rw [if_neg ed]; exact hv
    · cases h
  · cases h

/-- what stands where an operation was not run -/
def isSkip : S → Bool
  | .tup [] => true
  | _ => false

theorem isSkip_eq {s : S} (h : isSkip s = true) : s = .tup [] := by
  unfold isSkip at h
  split at h
  · rfl
  · cases h

def guardB (ops : Array Oper) (T : Tm) (g : G) (o : Oper) : Option (Bool × Tm × G) :=
  match o.guard with
  | none => some (true, T, g)
  | some (j, want) =>
    match (ops[j]?).bind (·.dst) with
    | some d => match isSkip (lk T d) with
      | true => some (false, T, g)
      | false => match decideT T g d with
        | some (b, T, g) => some (b == want, T, g)
        | none => none
    | none => none

theorem guardB_sound {pr : Prs} {E : Env} {σ : Plc} {ops : Array Oper} {T T' : Tm} {g g' : G} {o : Oper} {b : Bool} {tmps : Array Value}
    (h : guardB ops T g o = some (b, T', g')) (hh : Hold pr E.ρ g'.asm) (hd : ∀ j want d, o.guard = some (j, want) → (ops[j]?).bind (·.dst) = some d → (lk T d).Den E σ (tmps.getD d undef)) :
    g.le g' ∧ g'.wr = g.wr ∧ Region.wanted o (yielded ops tmps) = b ∧ ∀ t v, (lk T t).Den E σ v → (lk T' t).Den E σ v := by
  unfold guardB at h
  split at h
  · rename_i hg
    cases h
    exact ⟨G.le_refl _, rfl, by simp [Region.wanted, hg], fun _ _ h => h⟩
  · rename_i j want hg
    split at h
    · rename_i d hdst
      split at h
      · rename_i hskip
        cases h
        refine ⟨G.le_refl _, rfl, ?_, fun _ _ h => h⟩
        have hv := hd j want d hg hdst
        rw [isSkip_eq hskip] at hv
        obtain ⟨vs, hv, hvs⟩ := hv
        cases hvs
        simp only [Region.wanted, hg, yielded, hdst, Option.bind_some]
        rw [Array.getD_eq_getD_getElem?] at hv
        cases ht : tmps[d]? with
        | none => rfl
        | some v => rw [ht] at hv; simp at hv; subst hv; rfl
      split at h
      · rename_i b' T1 g1 hdec
        cases h
        obtain ⟨h1, h2, h3, h4⟩ := decideT_sound (σ := σ) hdec hh
        refine ⟨h1, h2, ?_, h4⟩
        have hv := h3 _ (hd j want d hg hdst)
        have hlt : tmps[d]? = some (.bool b') := by
          rw [Array.getD_eq_getD_getElem?] at hv
          cases ht : tmps[d]? with
          | none => rw [ht] at hv; simp [undef] at hv
          | some v => rw [ht] at hv; simp at hv; rw [hv]
        simp only [Region.wanted, hg, yielded, hdst, Option.bind_some, hlt]
        cases b' <;> cases want <;> rfl
      · cases h
    · cases h

/-- I stands as long as no block below base turns -/
def Stable (I : World → Prop) (base : Nat) : Prop := ∀ w w', I w → base ≤ w.heap.size → w.heap.size ≤ w'.heap.size → (∀ b, b < base → w'.heap[b]? = w.heap[b]?) → I w'

/-- the state behind a part of the run -/
structure Inv (I : World → Prop) (base : Nat) (E : Env) (nt : Nat) (σ0 : Plc) (M0 : Mem) (w0 : World) (σ : Plc) (T : Tm) (M : Mem) (g : G) (a : Act) (w : World) : Prop where
  t : TRep E σ T nt a
  m : MRep base E σ M w
  free : ∀ r, M.length ≤ r → σ r = none
  inv : I w
  ble : base ≤ w.heap.size
  same : ∀ r, r < M0.length → σ r = σ0 r
  grow : M0.length ≤ M.length
  lens : ∀ (i : Nat) (cs cs' : List L), M0[i]? = some cs → M[i]? = some cs' → cs'.length = cs.length
  fresh : ∀ r p, M0.length ≤ r → σ r = some p → w0.heap.size ≤ p.1
  ev : Ev (Wr σ0 M0 g.wr) w0 w
  dom : ∀ r, M0.length ≤ r → r < M.length → ∃ p, σ r = some p

theorem Wr.mono {σ : Plc} {M : Mem} {ws ws' : List Nat} (h : ∀ x ∈ ws, x ∈ ws') {b o : Nat} (hw : Wr σ M ws b o) : Wr σ M ws' b o := by
  obtain ⟨r, p, cs, h1, h2⟩ := hw
  exact ⟨r, p, cs, h _ h1, h2⟩

/-- the memory part of one step -/
structure MInv (I : World → Prop) (base : Nat) (E : Env) (σ0 : Plc) (M0 : Mem) (w0 : World) (σ : Plc) (M : Mem) (g : G) (w : World) : Prop where
  m : MRep base E σ M w
  free : ∀ r, M.length ≤ r → σ r = none
  inv : I w
  ble : base ≤ w.heap.size
  same : ∀ r, r < M0.length → σ r = σ0 r
  grow : M0.length ≤ M.length
  lens : ∀ (i : Nat) (cs cs' : List L), M0[i]? = some cs → M[i]? = some cs' → cs'.length = cs.length
  fresh : ∀ r p, M0.length ≤ r → σ r = some p → w0.heap.size ≤ p.1
  ev : Ev (Wr σ0 M0 g.wr) w0 w

theorem Inv.mem {I : World → Prop} {base : Nat} {E : Env} {nt : Nat} {σ0 : Plc} {M0 : Mem} {w0 : World} {σ : Plc} {T : Tm} {M : Mem} {g : G} {a : Act} {w : World} (h : Inv I base E nt σ0 M0 w0 σ T M g a w) :
    MInv I base E σ0 M0 w0 σ M g w := ⟨h.m, h.free, h.inv, h.ble, h.same, h.grow, h.lens, h.fresh, h.ev⟩

theorem MInv.with {I : World → Prop} {base : Nat} {E : Env} {nt : Nat} {σ0 : Plc} {M0 : Mem} {w0 : World} {σ : Plc} {T : Tm} {M : Mem} {g : G} {a : Act} {w : World} (h : MInv I base E σ0 M0 w0 σ M g w) (ht : TRep E σ T nt a) (hd : ∀ r, M0.length ≤ r → r < M.length → ∃ p, σ r = some p) :
    Inv I base E nt σ0 M0 w0 σ T M g a w := ⟨ht, h.m, h.free, h.inv, h.ble, h.same, h.grow, h.lens, h.fresh, h.ev, hd⟩

theorem MInv.g {I : World → Prop} {base : Nat} {E : Env} {σ0 : Plc} {M0 : Mem} {w0 : World} {σ : Plc} {M : Mem} {g g' : G} {w : World} (h : MInv I base E σ0 M0 w0 σ M g w) (hg : ∀ x ∈ g.wr, x ∈ g'.wr) :
    MInv I base E σ0 M0 w0 σ M g' w :=
  ⟨h.m, h.free, h.inv, h.ble, h.same, h.grow, h.lens, h.fresh, Ev.trans (Ev.refl (fun _ _ => False) w0) h.ev (fun _ _ _ h => h.elim) (fun _ _ _ h => h.mono hg)⟩

/-- places of cells that were there before lie in regions that were there before -/
theorem MInv.wr_old {I : World → Prop} {base : Nat} {E : Env} {σ0 : Plc} {M0 : Mem} {w0 : World} {σ : Plc} {M : Mem} {g : G} {w : World} (h : MInv I base E σ0 M0 w0 σ M g w) {ws : List Nat} {b o : Nat} (hb : b < w0.heap.size)
    (hw : Wr σ M ws b o) : Wr σ0 M0 ws b o := by
  obtain ⟨r, p, cs, h1, h2, h3, rfl, h5, h6⟩ := hw
  by_cases hr : r < M0.length
  · have := h.lens r _ cs (List.getElem?_eq_getElem hr) h3
    exact ⟨r, p, _, h1, by rw [← h.same r hr]; exact h2, List.getElem?_eq_getElem hr, rfl, h5, by omega⟩
  · have := h.fresh r p (by omega) h2
    omega

theorem MRep.under {base : Nat} {E : Env} {σ : Plc} {M : Mem} {w : World} (h : MRep base E σ M w) (news : Mem) (hf : ∀ r, M.length ≤ r → σ r = none) : MRep base E σ (M ++ news) w := by
  have key : ∀ r p cs, σ r = some p → (M ++ news)[r]? = some cs → M[r]? = some cs := by
    intro r p cs hr hm
    by_cases hlt : r < M.length
    · rwa [List.getElem?_append_left hlt] at hm
    · rw [hf r (by omega)] at hr; cases hr
  exact ⟨fun r p cs hr hm => h.rep r p cs hr (key r p cs hr hm), fun r r' p p' cs cs' hne hr hr' hm hm' => h.dis r r' p p' cs cs' hne hr hr' (key r p cs hr hm) (key r' p' cs' hr' hm'), h.bas, h.lt⟩

theorem Free.of {σ : Plc} {M : Mem} (hf : ∀ r, M.length ≤ r → σ r = none) (e : Eff) : Free σ M e := by
  cases e with
  | quiet news => exact fun j _ => hf _ (by omega)
  | write _ _ => exact hf

theorem MInv.step {I : World → Prop} {base : Nat} {E : Env} {σ0 : Plc} {M0 : Mem} {w0 : World} {σ : Plc} {M : Mem} {g : G} {w w' : World} {r : R} {v : Value} (hI : Stable I base) (h : MInv I base E σ0 M0 w0 σ M g w)
    (hp : Post base E σ M w r v w') (hle : g.le r.g) (hw : WrOk r) : ∃ σ', σ.le σ' ∧ (∀ i, i < M.length → σ' i = σ i) ∧ (∀ i, M.length ≤ i → i < (effM M r.eff).length → ∃ p, σ' i = some p) ∧ r.s.Den E σ' v ∧ MInv I base E σ0 M0 w0 σ' (effM M r.eff) r.g w' := by
  unfold Post at hp
  unfold WrOk at hw
  split at hp
  · rename_i news he
    rw [he]
    obtain ⟨σ', hp⟩ := hp
    have hdm : ∀ i, M.length ≤ i → i < (effM M (.quiet news)).length → ∃ p, σ' i = some p := by
      intro i h1 h2
      simp only [effM, List.length_append] at h2
      obtain ⟨q, q1, _⟩ := hp.news.at_ (i - M.length) _ (List.getElem?_eq_getElem (by omega))
      rw [show M.length + (i - M.length) = i from by omega] at q1
      exact ⟨q, q1⟩
    refine ⟨σ', hp.le, fun i hi => hp.same i (.inl hi), hdm, hp.den, ?_⟩
    have hev : Ev (fun _ _ => False) w w' := hp.ev
    have hsz := hev.size
    refine ⟨?_, ?_, ?_, by have := h.ble; omega, ?_, ?_, ?_, ?_, ?_⟩
    · exact (h.m.under news h.free).quiet hp.le hp.same (fun j cs hj cs' hj' => by
        rw [List.getElem?_append_right (by omega), show M.length + j - M.length = j from by omega, hj] at hj'
        cases hj'; rfl) hp.news hev h.ble
    · intro x hx
      simp only [effM, List.length_append] at hx
      rw [hp.same x (by omega)]
      exact h.free x (by omega)
    · exact hI w w' h.inv h.ble hsz fun b hb => hev.block b (by have := h.ble; omega) (fun _ h => h)
    · intro x hx
      have := h.grow
      rw [hp.same x (by omega)]; exact h.same x hx
    · simp only [effM, List.length_append]; have := h.grow; omega
    · intro i cs cs' hcs hcs'
      have := h.grow
      have := lt_of_get hcs
      simp only [effM] at hcs'
      rw [List.getElem?_append_left (by omega)] at hcs'
      exact h.lens i cs cs' hcs hcs'
    · intro x p hx hxp
      by_cases hlt : x < M.length
      · rw [hp.same x (by omega)] at hxp; exact h.fresh x p hx hxp
      · by_cases hlt2 : x < M.length + news.length
        · obtain ⟨q, q1, q2, _⟩ := hp.news.at_ (x - M.length) _ (List.getElem?_eq_getElem (by omega))
          rw [show M.length + (x - M.length) = x from by omega, hxp] at q1
          cases q1
          have := h.ev.size; omega
        · rw [hp.same x (by omega), h.free x (by omega)] at hxp; cases hxp
    · exact Ev.trans h.ev hev (fun _ _ _ h => h.mono hle.wr) (fun _ _ _ h => h.elim)
  · rename_i M' ws he
    rw [he] at hw ⊢
    obtain ⟨σ', hp⟩ := hp
    have hev : Ev (Wr σ M ws) w w' := hp.ev
    have hsz := hev.size
    refine ⟨σ', hp.le, hp.same, hp.dom, hp.den, hp.rep, hp.free, ?_, by have := h.ble; omega, ?_, ?_, ?_, ?_, ?_⟩
    · refine hI w w' h.inv h.ble hsz fun b hb => hev.block b (by have := h.ble; omega) ?_
      rintro o ⟨x, p, cs, _, hx, _, rfl, _⟩
      have := h.m.bas x p hx
      omega
    · intro x hx
      have := h.grow
      rw [hp.same x (by omega)]; exact h.same x hx
    · have h1 := hp.grow; have h2 := h.grow; simp only [effM]; omega
    · intro i cs cs' hcs hcs'
      have := h.grow
      have hi := lt_of_get hcs
      have hm := List.getElem?_eq_getElem (l := M) (i := i) (by omega)
      rw [hp.lens i _ cs' hm hcs', h.lens i cs _ hcs hm]
    · intro x p hx hxp
      by_cases hlt : x < M.length
      · rw [hp.same x hlt] at hxp; exact h.fresh x p hx hxp
      · have := hp.fresh x p (by omega) hxp
        have := h.ev.size; omega
    · exact Ev.trans h.ev hev (fun _ _ _ h => h.mono hle.wr) (fun b o hb hwr => (h.wr_old hb hwr).mono hw)

theorem TRep.put' {E : Env} {σ : Plc} {T T' : Tm} {nt : Nat} {a : Act} {dst : Option Tmp} {s : S} {v : Value} (h : TRep E σ T nt a) (hp : putT nt T dst s = some T') (hv : s.Den E σ v) : TRep E σ T' nt (a.put dst v) := by
  unfold putT at hp
  split at hp
  · cases hp; exact h
  · split at hp
    · rename_i hlt
      cases hp
      exact h.put (Nat.le_of_ble_eq_true hlt) hv
    · cases hp

/-- the operations of a region, in the order of the text -/
def runList (P : Program) (ts : List Tmpl) (nt : Nat) (ops : Array Oper) : List Oper → Tm → Mem → G → Option (Tm × Mem × G)
  | [], T, M, g => some (T, M, g)
  | o :: rest, T, M, g =>
    match guardB ops T g o with
    | some (true, T, g) =>
      match opStep P ts T M g o with
      | some r => match putT nt T o.dst r.s with
        | some T => runList P ts nt ops rest T (effM M r.eff) r.g
        | none => none
      | none => none
    | some (false, T, g) =>
      match putT nt T o.dst (.tup []) with
      | some T => runList P ts nt ops rest T M g
      | none => none
    | none => none

/-- what stays the same through a run -/
structure Cx (P : Program) (F : Fns) (pr : Prs) (I : World → Prop) (base : Nat) (ts : List Tmpl) (E : Env) : Prop where
  tm : ∀ i T, ts[i]? = some T → TSound P F pr E.gv I base i T
  gh : GhostOk F E.gv
  st : Stable I base
  mix : P.follows .mixedOrders = true

theorem okShift_le {g g' : G} {b : A} (h : okShift g b = some g') : g.le g' := by
  unfold okShift at h
  split at h
  · split at h
    · cases h; exact G.le_refl _
    · cases h
  · cases h; exact G.le_ask _ _

theorem stBin_le {P : Program} {g g' : G} {o : BinOp} {t : TypeId} {x y s : S} {yc : Bool} (h : stBin P g o t x y yc = some (s, g')) : g.le g' := by
  unfold stBin at h
  split at h
  · split at h
    · split at h
      · rename_i g1 hok
        simp only [outI, Option.some.injEq, Prod.mk.injEq] at h
        rw [← h.2]; exact G.le_trans (okShift_le hok) (mk2_le _ _ _ _ _)
      · cases h
    · split at h
      · cases h
      · split at h
        · split at h
          · split at h
            · cases h
            · simp only [outI, Option.some.injEq, Prod.mk.injEq] at h
              rw [← h.2]; exact mk2_le _ _ _ _ _
          · cases h
        · split at h
          · simp only [outB, Option.some.injEq, Prod.mk.injEq] at h
            rw [← h.2]; exact mk2_le _ _ _ _ _
          · simp only [outI, Option.some.injEq, Prod.mk.injEq] at h
            rw [← h.2]; exact mk2_le _ _ _ _ _
  · split at h
    · simp only [outB, Option.some.injEq, Prod.mk.injEq] at h
      rw [← h.2]; exact eqBool_le _ _ _ _
    · cases h
  · split at h
    · simp only [outB, Option.some.injEq, Prod.mk.injEq] at h
      rw [← h.2]; exact eqList_le _ _ _ _ _
    · cases h
  · split at h
    · split at h
      · simp only [outB, Option.some.injEq, Prod.mk.injEq] at h
        rw [← h.2]; exact eqList_le _ _ _ _ _
      · cases h
    · cases h
  · split at h
    · simp only [Option.some.injEq, Prod.mk.injEq] at h
      rw [← h.2]; exact G.le_refl _
    · cases h
  · split at h
    · simp only [Option.some.injEq, Prod.mk.injEq] at h
      rw [← h.2]; exact G.le_refl _
    · cases h
  · cases h

theorem inst_le {T : Tmpl} {c : Nat} {M : Mem} {g : G} {args : List S} {r : R} (h : inst T c M g args = some r) : g.le r.g := by
  have hle : ∀ ins, g.le (gOut T c ins g) := by
    intro ins
    refine ⟨fun x hx => ?_, fun x hx => ?_, fun x hx => hx⟩
    · simp only [gOut]; exact List.mem_append_right _ hx
    · simp only [gOut]; split
      · exact List.mem_cons_of_mem _ hx
      · exact hx
  unfold inst at h
  split at h
  · cases h
  split at h
  · cases h
  split at h
  case h_2 => cases h
  simp only [] at h
  split at h
  case h_2 => cases h
  split at h
  · cases h; exact hle _
  · split at h
    · cases h
      exact G.le_trans (hle _) ⟨fun _ h => h, fun _ h => h, fun x hx => List.mem_append_right _ hx⟩
    · cases h

theorem instAny_le {f : FuncId} {M : Mem} {g : G} {args : List S} {r : R} : ∀ {ts : List Tmpl} {c : Nat}, instAny f M g args ts c = some r → g.le r.g
  | [], c, h => by simp [instAny] at h
  | T :: ts, c, h => by
    simp only [instAny] at h
    split at h
    · split at h
      · rename_i r' hr; cases h; exact inst_le hr
      · exact instAny_le h
    · exact instAny_le h

theorem stIdx_le {g : G} {r off size len : Nat} {i : A} {R' : R} (h : stIdx g r off size len i = some R') : g.le R'.g := by
  unfold stIdx at h
  split at h
  · split at h
    · cases h; exact G.le_refl _
    · cases h
  · cases h
  · split at h
    · cases h; exact G.le_ask _ _
    · (repeat' (split at h)) <;> first | (cases h; done) | (cases h; exact G.le_fix _ _ _ _)

theorem stBuiltin_le {P : Program} {M : Mem} {g : G} {b : Builtin} {ts : List TypeId} {args : List S} {r : R} (h : stBuiltin P M g b ts args = some r) : g.le r.g := by
  unfold stBuiltin at h
  split at h
  · split at h <;> cases h; exact G.le_refl _
  · split at h <;> cases h; exact G.le_push _ _
  · cases h; exact G.le_refl _
  · cases h; exact G.le_push _ _
  · cases h; exact G.le_refl _
  · cases h; exact G.le_push _ _
  · split at h
    · split at h
      · cases h; exact ⟨fun _ h => h, fun _ h => h, fun _ h => List.mem_cons_of_mem _ h⟩
      · cases h
    · cases h
  · split at h
    · split at h
      · split at h
        · cases h; exact G.le_refl _
        · cases h
      · cases h
    · cases h
  · cases h

theorem opStep_le {P : Program} {ts : List Tmpl} {T : Tm} {M : Mem} {g : G} {o : Oper} {r : R} (h : opStep P ts T M g o = some r) : g.le r.g := by
  unfold opStep at h
  split at h
  · cases h; exact G.le_refl _
  · cases h; exact G.le_refl _
  · unfold stPick at h; (repeat' (split at h)) <;> first | (cases h; done) | (cases h; exact G.le_refl _) | (cases h; exact G.le_push _ _)
  · unfold stAlloc at h; (repeat' (split at h)) <;> first | (cases h; done) | (cases h; exact G.le_refl _)
  · unfold stBox at h; (repeat' (split at h)) <;> first | (cases h; done) | (cases h; exact G.le_refl _)
  · unfold stBuild at h; (repeat' (split at h)) <;> first | (cases h; done) | (cases h; exact G.le_refl _)
  · unfold stBuildSlice at h; (repeat' (split at h)) <;> first | (cases h; done) | (cases h; exact G.le_refl _)
  · unfold stLoad at h; (repeat' (split at h)) <;> first | (cases h; done) | (cases h; exact G.le_refl _) | (rename_i hsel; cases h; exact selN_le hsel) | (rename_i hsel; cases h; exact sel1_le hsel)
  · unfold stStore at h; (repeat' (split at h)) <;> first | (cases h; done) | (cases h; exact ⟨fun _ h => h, fun _ h => h, fun _ h => List.mem_cons_of_mem _ h⟩)
  · unfold stNil at h; (repeat' (split at h)) <;> first | (cases h; done) | (cases h; exact G.le_refl _)
  · split at h
    · rename_i hb; cases h; exact stBin_le hb
    · cases h
  · unfold stUn at h; (repeat' (split at h)) <;> first | (cases h; done) | (cases h; exact mk2_le _ _ _ _ _) | (cases h; exact flipB_le _ _)
  · unfold stConvert at h; (repeat' (split at h)) <;> first | (cases h; done) | (cases h; exact G.le_refl _) | (cases h; exact G.le_push _ _)
  · unfold stArr at h; (repeat' (split at h)) <;> first | (cases h; done) | (cases h; exact G.le_refl _)
  · unfold stIface at h; (repeat' (split at h)) <;> first | (cases h; done) | (cases h; exact G.le_refl _)
  · unfold stFunc at h; (repeat' (split at h)) <;> first | (cases h; done) | (cases h; exact G.le_refl _)
  · unfold stMakeSlice at h; (repeat' (split at h)) <;> first | (cases h; done) | (cases h; exact G.le_refl _)
  · unfold stSlice at h; (repeat' (split at h)) <;> first | (cases h; done) | (cases h; exact G.le_refl _)
  · unfold stFieldAddr at h; (repeat' (split at h)) <;> first | (cases h; done) | (cases h; exact G.le_refl _)
  · unfold stIndexAddr at h; (repeat' (split at h)) <;> first | (cases h; done) | exact stIdx_le h
  · unfold stExtract at h; (repeat' (split at h)) <;> first | (cases h; done) | (cases h; exact G.le_refl _)
  · unfold stCall at h
    split at h
    · split at h
      · exact instAny_le h
      · cases h
    · exact stBuiltin_le h
    · cases h
  · cases h

theorem decideB_le {g g' : G} {a : A} {b : Bool} (h : decideB g a = some (b, g')) : g.le g' := by
  unfold decideB at h
  split at h
  · cases h; exact G.le_refl _
  · split at h
    · cases h; exact ⟨fun _ h => h, fun _ h => List.mem_cons_of_mem _ h, fun _ h => h⟩
    · cases h

theorem decideT_le {T T' : Tm} {g g' : G} {d : Nat} {b : Bool} (h : decideT T g d = some (b, T', g')) : g.le g' := by
  unfold decideT at h
  split at h
  · cases h; exact G.le_refl _
  · split at h
    · rename_i hd; cases h; exact decideB_le hd
    · cases h
  · cases h

theorem guardB_le {ops : Array Oper} {T T' : Tm} {g g' : G} {o : Oper} {b : Bool} (h : guardB ops T g o = some (b, T', g')) : g.le g' := by
  unfold guardB at h
  split at h
  · cases h; exact G.le_refl _
  · split at h
    · split at h
      · cases h; exact G.le_refl _
      split at h
      · rename_i hd; cases h; exact decideT_le hd
      · cases h
    · cases h

theorem runList_le {P : Program} {ts : List Tmpl} {nt : Nat} {ops : Array Oper} : ∀ {l : List Oper} {T T' : Tm} {M M' : Mem} {g g' : G}, runList P ts nt ops l T M g = some (T', M', g') → g.le g'
  | [], T, T', M, M', g, g', h => by simp [runList] at h; rw [h.2.2]; exact G.le_refl _
  | o :: rest, T, T', M, M', g, g', h => by
    simp only [runList] at h
    split at h
    · rename_i hg
      split at h
      · rename_i r hr
        split at h
        · exact G.le_trans (guardB_le hg) (G.le_trans (opStep_le hr) (runList_le h))
        · cases h
      · cases h
    · rename_i hg
      split at h
      · exact G.le_trans (guardB_le hg) (runList_le h)
      · cases h
    · cases h

theorem runList_sound {P : Program} {F : Fns} {pr : Prs} {I : World → Prop} {base : Nat} {ts : List Tmpl} {nt : Nat} {E : Env} {σ0 : Plc} {M0 : Mem} {w0 : World} {ops : Array Oper} {Q : Exit → Act → World → Prop} (cx : Cx P F pr I base ts E) :
    ∀ {l : List Oper} {T T' : Tm} {M M' : Mem} {g g' : G} {σ : Plc} {a : Act} {w : World}, runList P ts nt ops l T M g = some (T', M', g') → Sat F E.ρ g'.ssa → Hold pr E.ρ g'.asm →
      Inv I base E nt σ0 M0 w0 σ T M g a w → (∀ σ' a' w', Inv I base E nt σ0 M0 w0 σ' T' M' g' a' w' → Q .normal a' w') → wpList P ops Q l a w
  | [], T, T', M, M', g, g', σ, a, w, h, hs, hh, hi, hq => by
    simp [runList] at h
    obtain ⟨rfl, rfl, rfl⟩ := h
    exact hq σ a w hi
  | o :: rest, T, T', M, M', g, g', σ, a, w, h, hs, hh, hi, hq => by
    simp only [runList] at h
    split at h
    · rename_i T1 g1 hg
      split at h
      · rename_i r hr
        split at h
        · rename_i T2 hput
          have hle := runList_le h
          have hh1 : Hold pr E.ρ g1.asm := hh.mono (G.le_trans (opStep_le hr) hle)
          obtain ⟨_, hwr, hw, hT⟩ := guardB_sound (E := E) (σ := σ) (tmps := a.tmps) hg hh1 (fun j want d _ _ => hi.t.get d)
          have ht1 : TRep E σ T1 nt a := ⟨fun t => hT t _ (hi.t.get t), hi.t.size, hi.t.defers⟩
          unfold wpList
          rw [if_pos hw]
          refine .inl ?_
          have hm1 : MInv I base E σ0 M0 w0 σ M g1 w := hi.mem.g (by rw [hwr]; exact fun _ h => h)
          refine (opStep_sound cx.tm cx.gh hr (hs.mono hle) (hh.mono hle) (fun x _ => ht1.opd x) hm1.m hm1.inv hm1.ble (Free.of hm1.free _) ?_).2.2
          intro v w' hp
          have hwok : WrOk r := (opStep_sound (Q := Q) (next := fun _ _ => True) cx.tm cx.gh hr (hs.mono hle) (hh.mono hle) (fun x _ => ht1.opd x) hm1.m hm1.inv hm1.ble (Free.of hm1.free _) (fun _ _ _ => trivial)).2.1
          obtain ⟨σ', hσ, _, hdm, hden, hm'⟩ := hm1.step cx.st hp (opStep_le hr) hwok
          refine runList_sound cx h hs hh (hm'.with ((ht1.mono hσ).put' hput hden) ?_) hq
          intro x h1 h2
          by_cases hx : x < M.length
          · obtain ⟨p, hp⟩ := hi.dom x h1 hx; exact ⟨p, hσ x p hp⟩
          · exact hdm x (by omega) h2
        · cases h
      · cases h
    · rename_i T1 g1 hg
      split at h
      · rename_i T2 hput
        have hle := runList_le h
        have hh1 : Hold pr E.ρ g1.asm := hh.mono hle
        obtain ⟨_, hwr, hw, hT⟩ := guardB_sound (E := E) (σ := σ) (tmps := a.tmps) hg hh1 (fun j want d _ _ => hi.t.get d)
        have ht1 : TRep E σ T1 nt a := ⟨fun t => hT t _ (hi.t.get t), hi.t.size, hi.t.defers⟩
        unfold wpList
        rw [if_neg (by rw [hw]; simp)]
        have hm1 : MInv I base E σ0 M0 w0 σ M g1 w := hi.mem.g (by rw [hwr]; exact fun _ h => h)
        exact runList_sound cx h hs hh (hm1.with (ht1.put' hput ⟨[], rfl, .nil⟩) hi.dom) hq
      · cases h
    · cases h

end Go.X

namespace Go.X

/-! ### a region that draws its order -/

structure Rc where
  T0 : Tm
  g0 : G
  T : Tm
  M : Mem
  g : G
  want : Bool
  val : S
  eff : Eff

def recList (P : Program) (ts : List Tmpl) (nt : Nat) (ops : Array Oper) : List Oper → Tm → Mem → G → Option (List Rc × Tm × Mem × G)
  | [], T, M, g => some ([], T, M, g)
  | o :: rest, T0, M, g0 =>
    match guardB ops T0 g0 o with
    | some (true, T, g) =>
      match opStep P ts T M g o with
      | some r => match putT nt T o.dst r.s with
        | some T' => match recList P ts nt ops rest T' (effM M r.eff) r.g with
          | some (rs, T', M', g') => some (⟨T0, g0, T, M, g, true, r.s, r.eff⟩ :: rs, T', M', g')
          | none => none
        | none => none
      | none => none
    | some (false, T, g) =>
      match putT nt T o.dst (.tup []) with
      | some T' => match recList P ts nt ops rest T' M g with
        | some (rs, T', M', g') => some (⟨T0, g0, T, M, g, false, .tup [], .quiet []⟩ :: rs, T', M', g')
        | none => none
      | none => none
    | none => none

def memAt (rs : List Rc) (M' : Mem) (k : Nat) : Mem :=
  match rs[k]? with
  | some rc => rc.M
  | none => M'

def isW : Eff → Bool
  | .quiet _ => false
  | .write _ _ => true

/-- what a record says of its operation -/
structure RcOk (P : Program) (ts : List Tmpl) (nt : Nat) (ops : Array Oper) (g' : G) (o : Oper) (rc : Rc) : Prop where
  guard : guardB ops rc.T0 rc.g0 o = some (rc.want, rc.T, rc.g)
  gle : rc.g.le g'
  dst : ∀ d, o.dst = some d → d < nt
  yes : rc.want = true → ∃ r, opStep P ts rc.T rc.M rc.g o = some r ∧ rc.val = r.s ∧ rc.eff = r.eff ∧ r.g.le g'
  no : rc.want = false → rc.val = .tup [] ∧ rc.eff = .quiet []

theorem recList_le {P : Program} {ts : List Tmpl} {nt : Nat} {ops : Array Oper} : ∀ {l : List Oper} {T T' : Tm} {M M' : Mem} {g g' : G} {rs : List Rc}, recList P ts nt ops l T M g = some (rs, T', M', g') → g.le g'
  | [], T, T', M, M', g, g', rs, h => by simp [recList] at h; rw [h.2.2.2]; exact G.le_refl _
  | o :: rest, T, T', M, M', g, g', rs, h => by
    simp only [recList] at h
    split at h
    · rename_i hg
      split at h
      · rename_i r hr
        split at h
        · split at h
          · rename_i h1
            cases h
            exact G.le_trans (guardB_le hg) (G.le_trans (opStep_le hr) (recList_le h1))
          · cases h
        · cases h
      · cases h
    · rename_i hg
      split at h
      · split at h
        · rename_i h1
          cases h
          exact G.le_trans (guardB_le hg) (recList_le h1)
        · cases h
      · cases h
    · cases h

theorem putT_lt {nt : Nat} {T T' : Tm} {dst : Option Tmp} {s : S} (h : putT nt T dst s = some T') : (∀ d, dst = some d → d < nt) ∧ ∀ t, lk T' t = if dst = some t then s else lk T t := by
  unfold putT at h
  split at h
  · cases h; simp
  · rename_i d
    split at h
    · rename_i hlt
      cases h
      refine ⟨fun d' e => by cases e; exact Nat.le_of_ble_eq_true hlt, ?_⟩
      intro t
      rw [lk_cons]
      by_cases e : d = t
      · subst e; simp
      · simp [e]
    · cases h

theorem recList_spec {P : Program} {ts : List Tmpl} {nt : Nat} {ops : Array Oper} : ∀ {l : List Oper} {T T' : Tm} {M M' : Mem} {g g' : G} {rs : List Rc}, recList P ts nt ops l T M g = some (rs, T', M', g') →
    rs.length = l.length ∧ memAt rs M' 0 = M ∧ ∀ (k : Nat) (o : Oper), l[k]? = some o → ∃ rc : Rc, rs[k]? = some rc ∧ RcOk P ts nt ops g' o rc ∧ memAt rs M' (k + 1) = effM rc.M rc.eff
  | [], T, T', M, M', g, g', rs, h => by
    simp [recList] at h
    obtain ⟨rfl, rfl, rfl, rfl⟩ := h
    exact ⟨rfl, rfl, by simp⟩
  | o :: rest, T, T', M, M', g, g', rs, h => by
    simp only [recList] at h
    split at h
    · rename_i T1 g1 hg
      split at h
      · rename_i r hr
        split at h
        · rename_i T2 hput
          split at h
          · rename_i rs1 T3 M3 g3 h1
            cases h
            obtain ⟨hl, h0, hk⟩ := recList_spec h1
            have hle := recList_le h1
            refine ⟨by simp [hl], rfl, ?_⟩
            intro k o' hk'
            cases k with
            | zero =>
              simp at hk'; subst hk'
              refine ⟨_, rfl, ⟨hg, G.le_trans (opStep_le hr) hle, (putT_lt hput).1, fun _ => ⟨r, hr, rfl, rfl, hle⟩, by simp⟩, ?_⟩
              show memAt rs1 M' 0 = _
              exact h0
            | succ k =>
              simp at hk'
              obtain ⟨rc, a1, a2, a3⟩ := hk k o' hk'
              exact ⟨rc, by simpa using a1, a2, by simpa [memAt] using a3⟩
          · cases h
        · cases h
      · cases h
    · rename_i T1 g1 hg
      split at h
      · rename_i T2 hput
        split at h
        · rename_i rs1 T3 M3 g3 h1
          cases h
          obtain ⟨hl, h0, hk⟩ := recList_spec h1
          have hle := recList_le h1
          refine ⟨by simp [hl], rfl, ?_⟩
          intro k o' hk'
          cases k with
          | zero =>
            simp at hk'; subst hk'
            refine ⟨_, rfl, ⟨hg, hle, (putT_lt hput).1, by simp, fun _ => ⟨rfl, rfl⟩⟩, ?_⟩
            show memAt rs1 M' 0 = _
            rw [h0]; simp [effM]
          | succ k =>
            simp at hk'
            obtain ⟨rc, a1, a2, a3⟩ := hk k o' hk'
            exact ⟨rc, by simpa using a1, a2, by simpa [memAt] using a3⟩
        · cases h
      · cases h
    · cases h

/-- the frame ahead of operation k, and the last one, told by the values put till then -/
def TextOk (E : Env) (σ : Plc) (v : Value) (t : Nat) (l : List Oper) (rs : List Rc) (T T' : Tm) : Prop :=
  (∀ (k : Nat) (rc : Rc), rs[k]? = some rc → (∀ (j : Nat) (o : Oper) (rj : Rc), j < k → l[j]? = some o → rs[j]? = some rj → o.dst = some t → rj.val.Den E σ v) →
    ((∀ (j : Nat) (o : Oper), j < k → l[j]? = some o → o.dst ≠ some t) → (lk T t).Den E σ v) → (lk rc.T0 t).Den E σ v) ∧
  ((∀ (j : Nat) (o : Oper) (rj : Rc), l[j]? = some o → rs[j]? = some rj → o.dst = some t → rj.val.Den E σ v) →
    ((∀ (j : Nat) (o : Oper), l[j]? = some o → o.dst ≠ some t) → (lk T t).Den E σ v) → (lk T' t).Den E σ v)

theorem recList_text {P : Program} {pr : Prs} {ts : List Tmpl} {nt : Nat} {ops : Array Oper} {E : Env} {σ : Plc} {v : Value} {t : Nat} :
    ∀ {l : List Oper} {T T' : Tm} {M M' : Mem} {g g' : G} {rs : List Rc}, recList P ts nt ops l T M g = some (rs, T', M', g') → Hold pr E.ρ g'.asm → TextOk E σ v t l rs T T'
  | [], T, T', M, M', g, g', rs, h, hh => by
    simp [recList] at h
    obtain ⟨rfl, rfl, rfl, rfl⟩ := h
    exact ⟨by simp, fun _ h2 => h2 (by simp)⟩
  | o :: rest, T, T', M, M', g, g', rs, h, hh => by
    -- both ways are of one make
    have key : ∀ (b : Bool) (T1 T2 : Tm) (M2 : Mem) (g1 g2 : G) (s : S) (rs1 : List Rc) (e : Eff), guardB ops T g o = some (b, T1, g1) → g1.le g' → putT nt T1 o.dst s = some T2 → recList P ts nt ops rest T2 M2 g2 = some (rs1, T', M', g') →
        rs = ⟨T, g, T1, M, g1, b, s, e⟩ :: rs1 → TextOk E σ v t (o :: rest) rs T T' := by
      intro b T1 T2 M2 g1 g2 s rs1 e hg hle hput h1 hrs
      have hT1 : ∀ t v, (lk T t).Den E σ v → (lk T1 t).Den E σ v := by
        have h1' : Hold pr E.ρ g1.asm := hh.mono hle
        unfold guardB at hg
        split at hg
        · cases hg; exact fun _ _ h => h
        · split at hg
          · split at hg
            · cases hg; exact fun _ _ h => h
            split at hg
            · rename_i hdec
              cases hg
              exact (decideT_sound (σ := σ) hdec h1').2.2.2
            · cases hg
          · cases hg
      obtain ⟨hlt, hlk⟩ := putT_lt hput
      obtain ⟨ih1, ih2⟩ := recList_text (v := v) (t := t) (E := E) (σ := σ) h1 hh
      have fst : (o.dst = some t → s.Den E σ v) → (o.dst ≠ some t → (lk T t).Den E σ v) → (lk T2 t).Den E σ v := by
        intro a b
        rw [hlk]
        split
        · rename_i e; exact a e
        · rename_i e; exact hT1 t v (b e)
      subst hrs
      refine ⟨?_, ?_⟩
      · intro k rc hk ha hb
        cases k with
        | zero => simp at hk; subst hk; exact hb (by simp)
        | succ k =>
          simp at hk
          refine ih1 k rc hk (fun j o' rj hj hl hr hd => ha (j + 1) o' rj (by omega) (by simpa using hl) (by simpa using hr) hd) ?_
          intro hno
          refine fst (fun hd => ha 0 o _ (by omega) rfl rfl hd) ?_
          intro hd
          refine hb ?_
          intro j o' hj hl
          cases j with
          | zero => simp at hl; subst hl; exact hd
          | succ j => exact hno j o' (by omega) (by simpa using hl)
      · intro ha hb
        refine ih2 (fun j o' rj hl hr hd => ha (j + 1) o' rj (by simpa using hl) (by simpa using hr) hd) ?_
        intro hno
        refine fst (fun hd => ha 0 o _ rfl rfl hd) ?_
        intro hd
        refine hb ?_
        intro j o' hl
        cases j with
        | zero => simp at hl; subst hl; exact hd
        | succ j => exact hno j o' (by simpa using hl)
    simp only [recList] at h
    split at h
    · rename_i T1 g1 hg
      split at h
      · rename_i r hr
        split at h
        · rename_i T2 hput
          split at h
          · rename_i rs1 T3 M3 g3 h1
            cases h
            exact key true T1 T2 _ g1 r.g r.s rs1 r.eff hg (G.le_trans (opStep_le hr) (recList_le h1)) hput h1 rfl
          · cases h
        · cases h
      · cases h
    · rename_i T1 g1 hg
      split at h
      · rename_i T2 hput
        split at h
        · rename_i rs1 T3 M3 g3 h1
          cases h
          exact key false T1 T2 _ g1 g1 (.tup []) rs1 (.quiet []) hg (recList_le h1) hput h1 rfl
        · cases h
      · cases h
    · cases h

end Go.X

namespace Go.X

/-! ### which operations stand before which -/

def clStep (acc : List Nat) (l : List Edge) (s : Nat) : Nat :=
  match l with
  | [] => s
  | e :: r => match Region.binds .any e with
    | true => clStep acc r (s ||| (1 <<< e.on) ||| acc.getD e.on 0)
    | false => clStep acc r s

def clAll : List Oper → List Nat → List Nat
  | [], acc => acc
  | o :: r, acc => clAll r (acc ++ [clStep acc o.after.toList 0])

theorem clStep_bit {acc : List Nat} {k : Nat} : ∀ {l : List Edge} {s : Nat}, (clStep acc l s).testBit k = true →
    s.testBit k = true ∨ ∃ e ∈ l, Region.binds .any e = true ∧ (k = e.on ∨ (acc.getD e.on 0).testBit k = true)
  | [], s, h => .inl h
  | e :: r, s, h => by
    simp only [clStep] at h
    split at h
    · rename_i hb
      rcases clStep_bit h with h1 | ⟨e', he', h2⟩
      · rw [Nat.testBit_or, Nat.testBit_or, Nat.one_shiftLeft, Nat.testBit_two_pow] at h1
        simp only [Bool.or_eq_true, decide_eq_true_eq] at h1
        rcases h1 with (h1 | h1) | h1
        · exact .inl h1
        · exact .inr ⟨e, by simp, hb, .inl h1.symm⟩
        · exact .inr ⟨e, by simp, hb, .inr h1⟩
      · exact .inr ⟨e', by simp [he'], h2⟩
    · rcases clStep_bit h with h1 | ⟨e', he', h2⟩
      · exact .inl h1
      · exact .inr ⟨e', by simp [he'], h2⟩

theorem clAll_get : ∀ {l : List Oper} {acc : List Nat}, (clAll l acc).length = acc.length + l.length ∧ (∀ i, i < acc.length → (clAll l acc)[i]? = acc[i]?) ∧
    ∀ (k : Nat) (o : Oper), l[k]? = some o → ∃ pre : List Nat, pre.length = acc.length + k ∧ (∀ i, i < pre.length → (clAll l acc)[i]? = pre[i]?) ∧ (clAll l acc)[acc.length + k]? = some (clStep pre o.after.toList 0)
  | [], acc => ⟨by simp [clAll], fun i _ => rfl, by simp⟩
  | o :: r, acc => by
    obtain ⟨h1, h2, h3⟩ := clAll_get (l := r) (acc := acc ++ [clStep acc o.after.toList 0])
    simp only [clAll]
    refine ⟨by rw [h1]; simp; omega, ?_, ?_⟩
    · intro i hi
      rw [h2 i (by simp; omega), List.getElem?_append_left hi]
    · intro k o' hk
      cases k with
      | zero =>
        simp at hk; subst hk
        refine ⟨acc, rfl, fun i hi => by rw [h2 i (by simp; omega), List.getElem?_append_left hi], ?_⟩
        rw [Nat.add_zero, h2 _ (by simp)]
        simp
      | succ k =>
        simp at hk
        obtain ⟨pre, p1, p2, p3⟩ := h3 k o' hk
        refine ⟨pre, by rw [p1]; simp; omega, p2, ?_⟩
        rw [show acc.length + (k + 1) = (acc ++ [clStep acc o.after.toList 0]).length + k from by simp; omega]
        exact p3

/-- what is asked for stands before what asks -/
def Closed (ops : List Oper) (D : Nat → Prop) : Prop := ∀ i o, D i → ops[i]? = some o → ∀ e ∈ o.after.toList, Region.binds .any e = true → D e.on

theorem cl_in {ops : List Oper} {D : Nat → Prop} (hc : Closed ops D) : ∀ (i : Nat) (o : Oper) (c : Nat), ops[i]? = some o → (clAll ops [])[i]? = some c → (∀ e ∈ o.after.toList, Region.binds .any e = true → D e.on) → ∀ k, c.testBit k = true → D k := by
  intro i
  induction i using Nat.strongRecOn with
  | _ i ih =>
    intro o c ho hcl hp k hk
    obtain ⟨_, _, h3⟩ := clAll_get (l := ops) (acc := [])
    obtain ⟨pre, p1, p2, p3⟩ := h3 i o ho
    simp only [List.length_nil, Nat.zero_add] at p1 p3
    rw [hcl] at p3
    cases p3
    rcases clStep_bit hk with h1 | ⟨e, he, hb, h2⟩
    · simp at h1
    · have hD := hp e he hb
      rcases h2 with rfl | h2
      · exact hD
      · rw [List.getD_eq_getElem?_getD] at h2
        by_cases hlt : e.on < pre.length
        · obtain ⟨h1, _, _⟩ := clAll_get (l := ops) (acc := [])
          have hol : e.on < ops.length := by have := lt_of_get ho; omega
          have he' := List.getElem?_eq_getElem (l := ops) hol
          have hc' : (clAll ops [])[e.on]? = some (pre[e.on]'hlt) := by rw [p2 _ hlt]; exact List.getElem?_eq_getElem hlt
          refine ih e.on (by omega) _ _ he' hc' (fun e' he1 hb1 => hc e.on _ hD he' e' he1 hb1) k ?_
          rw [List.getElem?_eq_getElem hlt] at h2
          simpa using h2
        · rw [List.getElem?_eq_none (by omega)] at h2
          simp at h2

def hasBit (c k : Nat) : Bool := Nat.testBit c k

/-- i and k stand in an order -/
def ordB (i ci k ck : Nat) : Bool := (Nat.blt k i && hasBit ci k) || (Nat.blt i k && hasBit ck i)

def looks (ops : Array Oper) (o : Oper) : List Tmp :=
  (o.op.operands.toList.filterMap fun | .tmp t => some t | _ => none) ++ (match o.guard with | some (j, _) => ((ops[j]?).bind (·.dst)).toList | none => [])

def pureOp : Op → Bool
  | .move _ | .assign _ | .pick .. | .build .. | .nilCheck _ | .binOp .. | .unOp .. | .sliceToArrayPointer .. | .makeInterface .. | .makeFunc .. | .slice .. | .fieldAddr .. | .indexAddr .. | .extract .. => true
  | _ => false

theorem pure_any {P : Program} {ts : List Tmpl} {T : Tm} {M M' : Mem} {g : G} {o : Oper} {r : R} (hp : pureOp o.op = true) (h : opStep P ts T M g o = some r) : opStep P ts T M' g o = some r ∧ r.eff = .quiet [] := by
  unfold opStep at h ⊢
  cases hop : o.op <;> simp only [hop, pureOp] at h hp ⊢ <;> first | (cases hp; done) | (refine ⟨h, ?_⟩)
  case move => cases h; rfl
  case assign => cases h; rfl
  case pick => unfold stPick at h; (repeat' (split at h)) <;> first | (cases h; done) | (cases h; rfl)
  case build => unfold stBuild at h; (repeat' (split at h)) <;> first | (cases h; done) | (cases h; rfl)
  case nilCheck => unfold stNil at h; (repeat' (split at h)) <;> first | (cases h; done) | (cases h; rfl)
  case binOp => split at h <;> first | (cases h; done) | (cases h; rfl)
  case unOp => unfold stUn at h; (repeat' (split at h)) <;> first | (cases h; done) | (cases h; rfl)
  case sliceToArrayPointer => unfold stArr at h; (repeat' (split at h)) <;> first | (cases h; done) | (cases h; rfl)
  case makeInterface => unfold stIface at h; (repeat' (split at h)) <;> first | (cases h; done) | (cases h; rfl)
  case makeFunc => unfold stFunc at h; (repeat' (split at h)) <;> first | (cases h; done) | (cases h; rfl)
  case slice => unfold stSlice at h; (repeat' (split at h)) <;> first | (cases h; done) | (cases h; rfl)
  case fieldAddr => unfold stFieldAddr at h; (repeat' (split at h)) <;> first | (cases h; done) | (cases h; rfl)
  case indexAddr => unfold stIndexAddr stIdx at h; (repeat' (split at h)) <;> first | (cases h; done) | (cases h; rfl)
  case extract => unfold stExtract at h; (repeat' (split at h)) <;> first | (cases h; done) | (cases h; rfl)

/-! ### the same value -/

def lBeq : L → L → Bool
  | .int k a, .int k' a' => kb k k' && A.beq a a'
  | .bool a, .bool a' => A.beq a a'
  | .ptr r o, .ptr r' o' => Nat.beq r r' && Nat.beq o o'
  | _, _ => false

def lsBeq : List L → List L → Bool
  | [], [] => true
  | a :: x, b :: y => lBeq a b && lsBeq x y
  | _, _ => false

def sBeq : S → S → Bool
  | .one (.lf a), .one (.lf b) => lBeq a b
  | .one (.agg a), .one (.agg b) => lsBeq a b
  | _, _ => false

theorem lBeq_eq {a b : L} (h : lBeq a b = true) : a = b := by
  unfold lBeq at h
  split at h
  · simp only [Bool.and_eq_true] at h; rw [kb_eq h.1, A.eq_of_beq h.2]
  · rw [A.eq_of_beq h]
  · simp only [Bool.and_eq_true] at h; rw [Nat.eq_of_beq_eq_true h.1, Nat.eq_of_beq_eq_true h.2]
  · cases h

theorem lsBeq_eq : ∀ {a b : List L}, lsBeq a b = true → a = b
  | [], [], _ => rfl
  | [], _ :: _, h => by simp [lsBeq] at h
  | _ :: _, [], h => by simp [lsBeq] at h
  | a :: x, b :: y, h => by
    simp only [lsBeq, Bool.and_eq_true] at h
    rw [lBeq_eq h.1, lsBeq_eq h.2]

theorem sBeq_eq {a b : S} (h : sBeq a b = true) : a = b := by
  unfold sBeq at h
  split at h
  · rw [lBeq_eq h]
  · rw [lsBeq_eq h]
  · cases h

/-- a load that any of the memories answers alike -/
def floatB (P : Program) (mems : List Mem) (o : Oper) (rc : Rc) : Bool :=
  match o.op with
  | .load t x =>
    match opd rc.T x with
    | .one (.lf (.ptr r off)) => mems.all fun m => match stLoad P m rc.g t (.one (.lf (.ptr r off))) with
      | some r' => sBeq r'.s rc.val
      | none => false
    | _ => false
  | _ => false

def freeB (P : Program) (mems : List Mem) (o : Oper) (rc : Rc) : Bool := !rc.want || pureOp o.op || floatB P mems o rc

def all3 (f : Nat → Oper → Rc → Nat → Bool) : List Oper → List Rc → List Nat → Nat → Bool
  | o :: os, r :: rs, c :: cs, i => f i o r c && all3 f os rs cs (i + 1)
  | _, _, _, _ => true

theorem all3_get {f : Nat → Oper → Rc → Nat → Bool} : ∀ {os : List Oper} {rs : List Rc} {cs : List Nat} {i : Nat}, all3 f os rs cs i = true → ∀ (k : Nat) (o : Oper) (r : Rc) (c : Nat), os[k]? = some o → rs[k]? = some r → cs[k]? = some c → f (i + k) o r c = true
  | [], rs, cs, i, h, k, o, r, c, h1, h2, h3 => by simp at h1
  | _ :: _, [], cs, i, h, k, o, r, c, h1, h2, h3 => by simp at h2
  | _ :: _, _ :: _, [], i, h, k, o, r, c, h1, h2, h3 => by simp at h3
  | o0 :: os, r0 :: rs, c0 :: cs, i, h, k, o, r, c, h1, h2, h3 => by
    simp only [all3, Bool.and_eq_true] at h
    cases k with
    | zero => simp at h1 h2 h3; subst h1; subst h2; subst h3; exact h.1
    | succ k =>
      have := all3_get h.2 k o r c (by simpa using h1) (by simpa using h2) (by simpa using h3)
      rwa [show i + 1 + k = i + (k + 1) from by omega] at this

def pairB (P : Program) (ops : Array Oper) (mems : List Mem) (i : Nat) (oi : Oper) (ri : Rc) (ci : Nat) (k : Nat) (ok : Oper) (rk : Rc) (ck : Nat) : Bool :=
  match Nat.beq i k with
  | true => true
  | false =>
    (match ok.dst with
      | some d => (match oi.dst with | some d' => !Nat.beq d d' | none => true) && (!(looks ops oi).any (Nat.beq d) || ordB i ci k ck)
      | none => true) &&
    (!isW ri.eff || ordB i ci k ck || (!isW rk.eff && freeB P mems ok rk))

def memsOf (rs : List Rc) (M' : Mem) : List Mem := (rs.filter fun r => isW r.eff).map (·.M) ++ [M']

def drawOk (P : Program) (ops : Array Oper) (rs : List Rc) (M' : Mem) : Bool :=
  let cls := clAll ops.toList []
  let mems := memsOf rs M'
  all3 (fun i o _ _ => o.after.toList.all fun e => !Region.binds .any e || Nat.blt e.on i) ops.toList rs cls 0 &&
  all3 (fun i oi ri ci => all3 (fun k ok rk ck => pairB P ops mems i oi ri ci k ok rk ck) ops.toList rs cls 0) ops.toList rs cls 0

end Go.X

namespace Go.X

theorem opStep_grow {P : Program} {ts : List Tmpl} {T : Tm} {M : Mem} {g : G} {o : Oper} {r : R} (h : opStep P ts T M g o = some r) : M.length ≤ (effM M r.eff).length := by
  cases he : r.eff with
  | quiet news => simp [effM]
  | write M' ws =>
    simp only [effM]
    have hq : ∀ nw, r.eff ≠ .quiet nw := by intro nw e; rw [he] at e; cases e
    have hinst : ∀ {T c args}, inst T c M g args = some r → M.length ≤ M'.length := by
      intro T c args h
      unfold inst at h
      split at h
      · cases h
      split at h
      · cases h
      split at h
      case h_2 => cases h
      simp only [] at h
      split at h
      case h_2 => cases h
      split at h
      · cases h; cases he
      · split at h
        · rename_i hu
          cases h; cases he
          simp [updM_len hu]
        · cases h
    have hany : ∀ {ts c f args}, instAny f M g args ts c = some r → M.length ≤ M'.length := by
      intro ts
      induction ts with
      | nil => intro c f args h; simp [instAny] at h
      | cons T ts ih =>
        intro c f args h
        simp only [instAny] at h
        split at h
        · split at h
          · rename_i hr; cases h; exact hinst hr
          · exact ih h
        · exact ih h
    unfold opStep at h
    split at h
    · cases h; cases he
    · cases h; cases he
    · unfold stPick at h; (repeat' (split at h)) <;> first | (cases h; done) | (cases h; cases he)
    · unfold stAlloc at h; (repeat' (split at h)) <;> first | (cases h; done) | (cases h; cases he)
    · unfold stBox at h; (repeat' (split at h)) <;> first | (cases h; done) | (cases h; cases he)
    · unfold stBuild at h; (repeat' (split at h)) <;> first | (cases h; done) | (cases h; cases he)
    · unfold stBuildSlice at h; (repeat' (split at h)) <;> first | (cases h; done) | (cases h; cases he)
    · unfold stLoad at h; (repeat' (split at h)) <;> first | (cases h; done) | (cases h; cases he)
    · unfold stStore at h; (repeat' (split at h)) <;> first | (cases h; done) | (cases h; cases he; simp)
    · unfold stNil at h; (repeat' (split at h)) <;> first | (cases h; done) | (cases h; cases he)
    · split at h <;> first | (cases h; done) | (cases h; cases he)
    · unfold stUn at h; (repeat' (split at h)) <;> first | (cases h; done) | (cases h; cases he)
    · unfold stConvert at h; (repeat' (split at h)) <;> first | (cases h; done) | (cases h; cases he)
    · unfold stArr at h; (repeat' (split at h)) <;> first | (cases h; done) | (cases h; cases he)
    · unfold stIface at h; (repeat' (split at h)) <;> first | (cases h; done) | (cases h; cases he)
    · unfold stFunc at h; (repeat' (split at h)) <;> first | (cases h; done) | (cases h; cases he)
    · unfold stMakeSlice at h; (repeat' (split at h)) <;> first | (cases h; done) | (cases h; cases he)
    · unfold stSlice at h; (repeat' (split at h)) <;> first | (cases h; done) | (cases h; cases he)
    · unfold stFieldAddr at h; (repeat' (split at h)) <;> first | (cases h; done) | (cases h; cases he)
    · unfold stIndexAddr stIdx at h; (repeat' (split at h)) <;> first | (cases h; done) | (cases h; cases he)
    · unfold stExtract at h; (repeat' (split at h)) <;> first | (cases h; done) | (cases h; cases he)
    · unfold stCall at h
      split at h
      · split at h
        · exact hany h
        · cases h
      · unfold stBuiltin at h; (repeat' (split at h)) <;> first | (cases h; done) | (cases h; cases he; done) | (cases h; cases he; simp)
      · cases h
    · cases h

theorem load_quiet {P : Program} {ts : List Tmpl} {T : Tm} {M : Mem} {g : G} {o : Oper} {r : R} {t : TypeId} {x : Operand} (ho : o.op = .load t x) (h : opStep P ts T M g o = some r) : r.eff = .quiet [] := by
  unfold opStep at h
  rw [ho] at h
  simp only [] at h
  unfold stLoad at h; (repeat' (split at h)) <;> first | (cases h; done) | (cases h; rfl)

theorem stLoad_ptr {P : Program} {M : Mem} {g : G} {t : TypeId} {r off : Nat} {r' : R} (h : stLoad P M g t (.one (.lf (.ptr r off))) = some r') : r'.g = g ∧ r'.eff = .quiet [] := by
  unfold stLoad at h
  simp only [] at h
  (repeat' (split at h)) <;> first | (cases h; done) | (cases h; exact ⟨rfl, rfl⟩)

/-- the memory part, without a word on what lies past M -/
structure MI (I : World → Prop) (base : Nat) (E : Env) (σ0 : Plc) (M0 : Mem) (w0 : World) (σ : Plc) (M : Mem) (wr : List Nat) (w : World) : Prop where
  m : MRep base E σ M w
  inv : I w
  ble : base ≤ w.heap.size
  same : ∀ r, r < M0.length → σ r = σ0 r
  grow : M0.length ≤ M.length
  lens : ∀ (i : Nat) (cs cs' : List L), M0[i]? = some cs → M[i]? = some cs' → cs'.length = cs.length
  fresh : ∀ r p, M0.length ≤ r → σ r = some p → w0.heap.size ≤ p.1
  ev : Ev (Wr σ0 M0 wr) w0 w

theorem MInv.mi {I : World → Prop} {base : Nat} {E : Env} {σ0 : Plc} {M0 : Mem} {w0 : World} {σ : Plc} {M : Mem} {g : G} {w : World} (h : MInv I base E σ0 M0 w0 σ M g w) : MI I base E σ0 M0 w0 σ M g.wr w :=
  ⟨h.m, h.inv, h.ble, h.same, h.grow, h.lens, h.fresh, h.ev⟩

theorem MI.full {I : World → Prop} {base : Nat} {E : Env} {σ0 : Plc} {M0 : Mem} {w0 : World} {σ : Plc} {M : Mem} {g : G} {w : World} (h : MI I base E σ0 M0 w0 σ M g.wr w) (hf : ∀ r, M.length ≤ r → σ r = none) : MInv I base E σ0 M0 w0 σ M g w :=
  ⟨h.m, hf, h.inv, h.ble, h.same, h.grow, h.lens, h.fresh, h.ev⟩

theorem MI.quiet {I : World → Prop} {base : Nat} {E : Env} {σ0 : Plc} {M0 : Mem} {w0 : World} {σ σ' : Plc} {M : Mem} {wr : List Nat} {w w' : World} {n : Nat} {news : Mem} {s : S} {v : Value} (hI : Stable I base) (h : MI I base E σ0 M0 w0 σ M wr w)
    (hp : QPost base E σ n news w s v w' σ') (hn : news ≠ [] → M0.length ≤ n) (hM : ∀ j cs, news[j]? = some cs → ∀ cs', M[n + j]? = some cs' → cs' = cs) : MI I base E σ0 M0 w0 σ' M wr w' := by
  have hev : Ev (fun _ _ => False) w w' := hp.ev
  have hsz := hev.size
  have hsame : ∀ x, x < M0.length → σ' x = σ x := by
    intro x hx
    by_cases e : news = []
    · subst e; exact hp.same x (by simp; omega)
    · have := hn e; exact hp.same x (.inl (by omega))
  refine ⟨h.m.quiet hp.le hp.same hM hp.news hev h.ble, ?_, by have := h.ble; omega, ?_, h.grow, h.lens, ?_, ?_⟩
  · exact hI w w' h.inv h.ble hsz fun b hb => hev.block b (by have := h.ble; omega) (fun _ h => h)
  · intro x hx; rw [hsame x hx]; exact h.same x hx
  · intro x p hx hxp
    by_cases hin : x < n ∨ n + news.length ≤ x
    · rw [hp.same x hin] at hxp; exact h.fresh x p hx hxp
    · obtain ⟨q, q1, q2, _⟩ := hp.news.at_ (x - n) _ (List.getElem?_eq_getElem (by omega))
      rw [show n + (x - n) = x from by omega, hxp] at q1
      cases q1
      have := h.ev.size; omega
  · exact Ev.trans h.ev hev (fun _ _ _ h => h) (fun _ _ _ h => h.elim)

theorem MI.under {I : World → Prop} {base : Nat} {E : Env} {σ0 : Plc} {M0 : Mem} {w0 : World} {σ : Plc} {M : Mem} {wr : List Nat} {w : World} (h : MI I base E σ0 M0 w0 σ M wr w) (hf : ∀ r, M.length ≤ r → σ r = none) (X : Mem) : MI I base E σ0 M0 w0 σ (M ++ X) wr w := by
  refine ⟨h.m.under X hf, h.inv, h.ble, h.same, by simp; have := h.grow; omega, ?_, h.fresh, h.ev⟩
  intro i cs cs' hcs hcs'
  have := h.grow
  have := lt_of_get hcs
  rw [List.getElem?_append_left (by omega)] at hcs'
  exact h.lens i cs cs' hcs hcs'

theorem MRep.pre {base : Nat} {E : Env} {σ : Plc} {M X : Mem} {w : World} (h : MRep base E σ (M ++ X) w) : MRep base E σ M w := by
  have key : ∀ (r : Nat) (cs : List L), M[r]? = some cs → (M ++ X)[r]? = some cs := fun r cs hr => by rw [List.getElem?_append_left (lt_of_get hr)]; exact hr
  exact ⟨fun r p cs hr hm => h.rep r p cs hr (key r cs hm), fun r r' p p' cs cs' hne hr hr' hm hm' => h.dis r r' p p' cs cs' hne hr hr' (key r cs hm) (key r' cs' hm'), h.bas, h.lt⟩

theorem count_set : ∀ (l : List Bool) (i : Nat), l[i]? = some false → (l.set i true).countP (fun b => !b) + 1 = l.countP (fun b => !b)
  | [], i, h => by simp at h
  | b :: l, 0, h => by simp at h; subst h; simp
  | b :: l, i + 1, h => by
    have := count_set l i (by simpa using h)
    simp only [List.set_cons_succ, List.countP_cons]
    omega

end Go.X

namespace Go.X

/-- the facts on a region that draws, and its run in the order of the text -/
structure Dr (P : Program) (ts : List Tmpl) (nt : Nat) (ops : Array Oper) (T : Tm) (M : Mem) (g' : G) (rs : List Rc) (T' : Tm) (M' : Mem) : Prop where
  len : rs.length = ops.toList.length
  start : memAt rs M' 0 = M
  spec : ∀ (k : Nat) (o : Oper), ops.toList[k]? = some o → ∃ rc : Rc, rs[k]? = some rc ∧ RcOk P ts nt ops g' o rc ∧ memAt rs M' (k + 1) = effM rc.M rc.eff
  pred : ∀ (i : Nat) (o : Oper), ops.toList[i]? = some o → ∀ e ∈ o.after.toList, Region.binds .any e = true → e.on < i
  pair : ∀ (i k : Nat) (oi ok : Oper) (ri rk : Rc), ops.toList[i]? = some oi → ops.toList[k]? = some ok → rs[i]? = some ri → rs[k]? = some rk → ∃ ci ck, (clAll ops.toList [])[i]? = some ci ∧ (clAll ops.toList [])[k]? = some ck ∧
    pairB P ops (memsOf rs M') i oi ri ci k ok rk ck = true

theorem dr_of {P : Program} {ts : List Tmpl} {nt : Nat} {ops : Array Oper} {T T' : Tm} {M M' : Mem} {g g' : G} {rs : List Rc} (h : recList P ts nt ops ops.toList T M g = some (rs, T', M', g')) (hok : drawOk P ops rs M' = true) :
    Dr P ts nt ops T M g' rs T' M' := by
  obtain ⟨h1, h2, h3⟩ := recList_spec h
  obtain ⟨c1, _, c3⟩ := clAll_get (l := ops.toList) (acc := [])
  simp only [drawOk, Bool.and_eq_true] at hok
  refine ⟨h1, h2, h3, ?_, ?_⟩
  · intro i o ho e he hb
    obtain ⟨rc, hr, _⟩ := h3 i o ho
    obtain ⟨pre, _, _, hc⟩ := c3 i o ho
    simp only [List.length_nil, Nat.zero_add] at hc
    have := all3_get hok.1 i o rc _ ho hr hc
    simp only [Nat.zero_add, List.all_eq_true, Bool.or_eq_true, Bool.not_eq_true'] at this
    rcases this e he with h | h
    · rw [h] at hb; cases hb
    · exact Nat.le_of_ble_eq_true h
  · intro i k oi ok ri rk hi hk hri hrk
    obtain ⟨_, _, _, hci⟩ := c3 i oi hi
    obtain ⟨_, _, _, hck⟩ := c3 k ok hk
    simp only [List.length_nil, Nat.zero_add] at hci hck
    have := all3_get hok.2 i oi ri _ hi hri hci
    have := all3_get this k ok rk _ hk hrk hck
    simp only [Nat.zero_add] at this
    exact ⟨_, _, hci, hck, this⟩

/-- the state while the operations in D are through -/
structure DI (P : Program) (I : World → Prop) (base : Nat) (E : Env) (nt : Nat) (ops : Array Oper) (rs : List Rc) (σ0 : Plc) (M0 : Mem) (w0 : World) (T : Tm) (M M' : Mem) (wr : List Nat) (D : Nat → Prop) (σ : Plc) (a : Act) (w : World) : Prop where
  closed : Closed ops.toList D
  dlt : ∀ k, D k → k < ops.toList.length
  put : ∀ (t k : Nat) (o : Oper) (rc : Rc), D k → ops.toList[k]? = some o → rs[k]? = some rc → o.dst = some t → rc.val.Den E σ (a.tmps.getD t undef)
  old : ∀ t, (∀ (k : Nat) (o : Oper), D k → ops.toList[k]? = some o → o.dst ≠ some t) → (lk T t).Den E σ (a.tmps.getD t undef)
  size : a.tmps.size = nt
  defers : a.defers = []
  mem : ∃ c, c ≤ ops.toList.length ∧ (c < ops.toList.length → ¬ D c ∧ ∃ rc, rs[c]? = some rc ∧ isW rc.eff = true) ∧ (∀ (i : Nat) (rc : Rc), i < c → rs[i]? = some rc → isW rc.eff = true → D i) ∧ MI I base E σ0 M0 w0 σ (memAt rs M' c) wr w
  dom : ∀ r p, σ r = some p → r < M.length ∨ ∃ k, D k ∧ (memAt rs M' k).length ≤ r ∧ r < (memAt rs M' (k + 1)).length
  rdom : ∀ k, D k → ∀ r, (memAt rs M' k).length ≤ r → r < (memAt rs M' (k + 1)).length → ∃ p, σ r = some p
  sdom : ∀ r, M0.length ≤ r → r < M.length → ∃ p, σ r = some p

section
variable {P : Program} {F : Fns} {pr : Prs} {I : World → Prop} {base : Nat} {ts : List Tmpl} {nt : Nat} {E : Env} {σ0 : Plc} {M0 : Mem} {w0 : World} {ops : Array Oper} {rs : List Rc} {T T' : Tm} {M M' : Mem} {g' : G}

theorem memAt_rc {k : Nat} {rc : Rc} (h : rs[k]? = some rc) : memAt rs M' k = rc.M := by simp [memAt, h]

theorem memAt_end (hd : Dr P ts nt ops T M g' rs T' M') : memAt rs M' ops.toList.length = M' := by
  unfold memAt
  rw [List.getElem?_eq_none (by rw [hd.len]; exact Nat.le_refl _)]

theorem memAt_grow (hd : Dr P ts nt ops T M g' rs T' M') : ∀ {i j : Nat}, i ≤ j → (memAt rs M' i).length ≤ (memAt rs M' j).length := by
  have step : ∀ k, (memAt rs M' k).length ≤ (memAt rs M' (k + 1)).length := by
    intro k
    by_cases hk : k < ops.toList.length
    · obtain ⟨rc, h1, h2, h3⟩ := hd.spec k _ (List.getElem?_eq_getElem hk)
      rw [memAt_rc h1, h3]
      cases hw : rc.want with
      | false => rw [(h2.no hw).2]; simp [effM]
      | true =>
        obtain ⟨r, r1, _, r3, _⟩ := h2.yes hw
        rw [r3]; exact opStep_grow r1
    · unfold memAt
      rw [List.getElem?_eq_none (by rw [hd.len]; omega), List.getElem?_eq_none (by rw [hd.len]; omega)]
      exact Nat.le_refl _
  intro i j h
  induction h with
  | refl => exact Nat.le_refl _
  | step h ih => exact Nat.le_trans ih (step _)

/-- no write from i on till c: what is laid is laid behind -/
theorem memAt_pre (hd : Dr P ts nt ops T M g' rs T' M') {i c : Nat} (hic : i ≤ c) (hc : c ≤ ops.toList.length) (hn : ∀ (j : Nat) (rc : Rc), i ≤ j → j < c → rs[j]? = some rc → isW rc.eff = false) : ∃ X, memAt rs M' c = memAt rs M' i ++ X := by
  induction c with
  | zero => have : i = 0 := by omega
            subst this; exact ⟨[], by simp⟩
  | succ c ih =>
    by_cases e : i = c + 1
    · subst e; exact ⟨[], by simp⟩
    · obtain ⟨X, hX⟩ := ih (by omega) (by omega) (fun j rc h1 h2 => hn j rc h1 (by omega))
      obtain ⟨rc, h1, h2, h3⟩ := hd.spec c _ (List.getElem?_eq_getElem (by omega))
      have := hn c rc (by omega) (by omega) h1
      rw [h3, ← memAt_rc (M' := M') h1, hX]
      cases he : rc.eff with
      | quiet nw => exact ⟨X ++ nw, by simp [effM]⟩
      | write _ _ => rw [he] at this; cases this

theorem free_none (hd : Dr P ts nt ops T M g' rs T' M') {k : Nat} {o : Oper} {rc : Rc} (ho : ops.toList[k]? = some o) (hr : rs[k]? = some rc) {mems : List Mem} (hf : freeB P mems o rc = true) : rc.eff = .quiet [] := by
  obtain ⟨rc', h1, h2, h3⟩ := hd.spec k o ho
  rw [hr] at h1; cases h1
  unfold freeB at hf
  cases hw : rc.want with
  | false => exact (h2.no hw).2
  | true =>
    rw [hw] at hf
    obtain ⟨r, r1, _, r3, _⟩ := h2.yes hw
    rw [r3]
    simp only [Bool.not_true, Bool.false_or, Bool.or_eq_true] at hf
    rcases hf with hf | hf
    · exact (pure_any (M' := rc.M) hf r1).2
    · unfold floatB at hf
      split at hf
      · rename_i t x ht; exact load_quiet ht r1
      · cases hf

theorem ord_iff {i ci k ck : Nat} (h : ordB i ci k ck = true) : (k < i ∧ ci.testBit k = true) ∨ (i < k ∧ ck.testBit i = true) := by
  simp only [ordB, Bool.or_eq_true, Bool.and_eq_true] at h
  exact h.imp (fun ⟨a, b⟩ => ⟨Nat.le_of_ble_eq_true a, b⟩) (fun ⟨a, b⟩ => ⟨Nat.le_of_ble_eq_true a, b⟩)

/-- what an ordered pair says while D is through, i can go on and has not gone -/
theorem ord_way {D : Nat → Prop} (hc : Closed ops.toList D) {i k ci ck : Nat} {oi ok : Oper} (hi : ops.toList[i]? = some oi) (hk : ops.toList[k]? = some ok) (hci : (clAll ops.toList [])[i]? = some ci) (hck : (clAll ops.toList [])[k]? = some ck)
    (ho : ordB i ci k ck = true) (hpre : ∀ e ∈ oi.after.toList, Region.binds .any e = true → D e.on) (hni : ¬ D i) : (k < i ∧ D k) ∨ (i < k ∧ ¬ D k) := by
  rcases ord_iff ho with ⟨h1, h2⟩ | ⟨h1, h2⟩
  · exact .inl ⟨h1, cl_in hc i oi ci hi hci hpre k h2⟩
  · refine .inr ⟨h1, fun hD => hni ?_⟩
    exact cl_in hc k ok ck hk hck (fun e he hb => hc k ok hD hk e he hb) i h2

theorem Act.getD_put (a : Act) (dst : Option Tmp) (v : Value) (t : Nat) (hlt : ∀ d, dst = some d → d < a.tmps.size) : (a.put dst v).tmps.getD t undef = if dst = some t then v else a.tmps.getD t undef := by
  cases dst with
  | none => simp [Act.put]
  | some d =>
    have hd := hlt d rfl
    simp only [Act.put, Array.getD_eq_getD_getElem?]
    by_cases e : d = t
    · subst e; simp [hd]
    · simp [Array.getElem?_setIfInBounds_ne e, e]

/-- one operation more is through -/
theorem DI.more {wr : List Nat} {D : Nat → Prop} {σ σ' : Plc} {a : Act} {w w' : World} {i : Nat} {o : Oper} {rc : Rc} {v : Value} (hd : Dr P ts nt ops T M g' rs T' M') (h : DI P I base E nt ops rs σ0 M0 w0 T M M' wr D σ a w)
    (ho : ops.toList[i]? = some o) (hr : rs[i]? = some rc) (hpre : ∀ e ∈ o.after.toList, Region.binds .any e = true → D e.on) (hni : ¬ D i) (hσ : σ.le σ') (hv : rc.val.Den E σ' v)
    (hmem : ∃ c, c ≤ ops.toList.length ∧ (c < ops.toList.length → ¬ (D c ∨ c = i) ∧ ∃ rc, rs[c]? = some rc ∧ isW rc.eff = true) ∧ (∀ (j : Nat) (rc : Rc), j < c → rs[j]? = some rc → isW rc.eff = true → D j ∨ j = i) ∧ MI I base E σ0 M0 w0 σ' (memAt rs M' c) wr w')
    (hdom : ∀ r p, σ' r = some p → σ r = some p ∨ ((memAt rs M' i).length ≤ r ∧ r < (memAt rs M' (i + 1)).length)) (hrd : ∀ r, (memAt rs M' i).length ≤ r → r < (memAt rs M' (i + 1)).length → ∃ p, σ' r = some p) :
    DI P I base E nt ops rs σ0 M0 w0 T M M' wr (fun k => D k ∨ k = i) σ' (a.put o.dst v) w' := by
  obtain ⟨rc', h1, h2, h3⟩ := hd.spec i o ho
  rw [hr] at h1; cases h1
  have hlt : ∀ d, o.dst = some d → d < a.tmps.size := fun d e => by rw [h.size]; exact h2.dst d e
  refine ⟨?_, ?_, ?_, ?_, ?_, ?_, hmem, ?_, ?_, fun r h1 h2 => (h.sdom r h1 h2).imp fun p hp => hσ r p hp⟩
  · intro k o' hk ho' e he hb
    rcases hk with hk | rfl
    · exact .inl (h.closed k o' hk ho' e he hb)
    · rw [ho] at ho'; cases ho'; exact .inl (hpre e he hb)
  · intro k hk
    rcases hk with hk | rfl
    · exact h.dlt k hk
    · exact lt_of_get ho
  · intro t k o' rc' hk ho' hr' hdst
    rw [Act.getD_put _ _ _ _ hlt]
    rcases hk with hk | rfl
    · have hne : i ≠ k := fun e => hni (e ▸ hk)
      obtain ⟨ci, ck, _, _, hp⟩ := hd.pair i k o o' rc rc' ho ho' hr hr'
      unfold pairB at hp
      rw [beq_ff hne] at hp
      simp only [hdst, Bool.and_eq_true] at hp
      have hu := hp.1.1
      have hdn : o.dst ≠ some t := by
        intro e
        rw [e] at hu
        simp at hu
      rw [if_neg hdn]
      exact (h.put t k o' rc' hk ho' hr' hdst).mono hσ
    · rw [ho] at ho'; cases ho'
      rw [hr] at hr'; cases hr'
      rw [if_pos hdst]; exact hv
  · intro t hno
    rw [Act.getD_put _ _ _ _ hlt]
    rw [if_neg (hno i o (.inr rfl) ho)]
    exact (h.old t fun k o' hk ho' => hno k o' (.inl hk) ho').mono hσ
  · cases o.dst <;> simp [Act.put, h.size]
  · cases o.dst <;> simp [Act.put, h.defers]
  · intro r p hrp
    rcases hdom r p hrp with h1 | h1
    · rcases h.dom r p h1 with h2 | ⟨k, h3, h4⟩
      · exact .inl h2
      · exact .inr ⟨k, .inl h3, h4⟩
    · exact .inr ⟨i, .inr rfl, h1⟩
  · intro k hk r h1 h2
    rcases hk with hk | rfl
    · exact (h.rdom k hk r h1 h2).imp fun p hp => hσ r p hp
    · exact hrd r h1 h2

end
end Go.X
