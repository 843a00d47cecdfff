/-
  A part of the proof of YtkjhclknbkleoaaGreat: texts X1, X2, X3, X4, X5, X6, X7, X8. No conditions.
-/
import Derived.Calls
import Derived.Laws.World
import Derived.Laws.Sem
import Derived.Orders
import Derived.LoopN
import Derived.Laws.StructEq
import Derived.ChangeKeysEq
import Derived.Laws.BytesString
import Derived.Laws.BytesArg
namespace Go.X

/-- atoms of the symbolic integers: a literal or a variable -/
inductive A where
  | l (n : Int)
  | v (x : Nat)

def A.beq : A → A → Bool
  | .l n, .l m => n == m
  | .v x, .v y => Nat.beq x y
  | _, _ => false

theorem A.eq_of_beq : ∀ {a b : A}, A.beq a b = true → a = b
  | .l n, .l m, h => by simp [A.beq] at h; rw [h]
  | .v x, .v y, h => by simp [A.beq] at h; rw [h]
  | .l _, .v _, h => by simp [A.beq] at h
  | .v _, .l _, h => by simp [A.beq] at h

def A.ev (ρ : Nat → Int) : A → Int
  | .l n => n
  | .v x => ρ x

inductive L where
  | int (k : IntKind) (a : A)
  | bool (a : A)
  | ptr (r off : Nat)
  | px (r off stride : Nat) (i : A) (len : Nat)
  | slc (r off len : Nat) (cap : Option Nat)
  | str (bs : List A)
  | ifp (t r off : Nat)
  | fn (f : Nat) (caps : List (Nat × Nat))
  | gho (g : Nat)
  | cst (v : Value)
  | any

inductive S1 where
  | lf (x : L)
  | agg (cs : List L)

inductive S where
  | one (x : S1)
  | tup (xs : List S1)

/-- pointwise relation of two lists -/
inductive All2 {α β : Type} (R : α → β → Prop) : List α → List β → Prop where
  | nil : All2 R [] []
  | cons {a : α} {b : β} {as : List α} {bs : List β} (h : R a b) (t : All2 R as bs) : All2 R (a :: as) (b :: bs)

namespace All2
variable {α β γ : Type} {R R' : α → β → Prop}

theorem mono (hr : ∀ a b, R a b → R' a b) {as : List α} {bs : List β} (h : All2 R as bs) : All2 R' as bs := by
  induction h with
  | nil => exact .nil
  | cons h _ ih => exact .cons (hr _ _ h) ih

theorem length_eq {as : List α} {bs : List β} (h : All2 R as bs) : as.length = bs.length := by
  induction h with
  | nil => rfl
  | cons _ _ ih => simp [ih]

theorem get {as : List α} {bs : List β} (h : All2 R as bs) : ∀ (i : Nat) (a : α), as[i]? = some a → ∃ b, bs[i]? = some b ∧ R a b := by
  induction h with
  | nil => intro i a h; simp at h
  | cons h _ ih =>
    intro i a ha
    cases i with
    | zero => simp at ha; subst ha; exact ⟨_, rfl, h⟩
    | succ i => simp at ha; simpa using ih i a ha

theorem getR {as : List α} {bs : List β} (h : All2 R as bs) : ∀ (i : Nat) (b : β), bs[i]? = some b → ∃ a, as[i]? = some a ∧ R a b := by
  induction h with
  | nil => intro i a h; simp at h
  | cons h _ ih =>
    intro i b hb
    cases i with
    | zero => simp at hb; subst hb; exact ⟨_, rfl, h⟩
    | succ i => simp at hb; simpa using ih i b hb

theorem of_get : ∀ {as : List α} {bs : List β}, as.length = bs.length → (∀ (i : Nat) (a : α) (b : β), as[i]? = some a → bs[i]? = some b → R a b) → All2 R as bs
  | [], [], _, _ => .nil
  | [], _ :: _, h, _ => by simp at h
  | _ :: _, [], h, _ => by simp at h
  | a :: as, b :: bs, h, hr => .cons (hr 0 a b rfl rfl) (of_get (by simpa using h) fun i a b ha hb => hr (i + 1) a b (by simpa using ha) (by simpa using hb))

theorem append {as as' : List α} {bs bs' : List β} (h : All2 R as bs) (h' : All2 R as' bs') : All2 R (as ++ as') (bs ++ bs') := by
  induction h with
  | nil => simpa using h'
  | cons h _ ih => exact .cons h ih

theorem take {as : List α} {bs : List β} (h : All2 R as bs) (n : Nat) : All2 R (as.take n) (bs.take n) := by
  induction h generalizing n with
  | nil => simp; exact .nil
  | cons h _ ih => cases n with
    | zero => simp; exact .nil
    | succ n => simp; exact .cons h (ih n)

theorem drop {as : List α} {bs : List β} (h : All2 R as bs) (n : Nat) : All2 R (as.drop n) (bs.drop n) := by
  induction h generalizing n with
  | nil => simp; exact .nil
  | cons h t ih => cases n with
    | zero => simp; exact .cons h t
    | succ n => simp; exact ih n

theorem map_left {f : γ → α} {as : List γ} {bs : List β} (h : All2 (fun c b => R (f c) b) as bs) : All2 R (as.map f) bs := by
  induction h with
  | nil => exact .nil
  | cons h _ ih => exact .cons h ih

end All2

structure Env where
  ρ : Nat → Int
  gv : Nat → Value

abbrev Plc := Nat → Option (Nat × Nat)

def adr (p : Nat × Nat) (o : Nat) : Addr := ⟨p.1, p.2 + o, none⟩

def L.Den (E : Env) (σ : Plc) : L → Value → Prop
  | .int k a, v => v = .int k (a.ev E.ρ)
  | .bool a, v => v = .bool (a.ev E.ρ != 0)
  | .ptr r off, v => ∃ p, σ r = some p ∧ v = .pointer (some (adr p off))
  | .px r off stride i len, v => ∃ p, σ r = some p ∧ 0 ≤ i.ev E.ρ ∧ i.ev E.ρ < len ∧ v = .pointer (some (adr p (off + stride * (i.ev E.ρ).toNat)))
  | .slc r off len cap, v => ∃ p c, σ r = some p ∧ len ≤ c ∧ (∀ c', cap = some c' → c = c') ∧ v = .slice (some (adr p off)) len c
  | .str bs, v => v = .string ⟨(bs.map fun a => UInt8.ofNat (a.ev E.ρ).toNat).toArray⟩
  | .ifp t r off, v => ∃ p, σ r = some p ∧ v = .iface t (.pointer (some (adr p off)))
  | .fn f caps, v => ∃ vs, v = .func (.func f) #[] ⟨vs⟩ ∧ All2 (fun (c : Nat × Nat) u => ∃ p, σ c.1 = some p ∧ u = .pointer (some (adr p c.2))) caps vs
  | .gho g, v => v = E.gv g
  | .cst u, v => v = u
  | .any, _ => True

def S1.Den (E : Env) (σ : Plc) : S1 → Value → Prop
  | .lf x, v => x.Den E σ v
  | .agg cs, v => ∃ vs, v = .agg ⟨vs⟩ ∧ All2 (L.Den E σ) cs vs

def S.Den (E : Env) (σ : Plc) : S → Value → Prop
  | .one x, v => x.Den E σ v
  | .tup xs, v => ∃ vs, v = .tuple ⟨vs⟩ ∧ All2 (S1.Den E σ) xs vs

def Plc.le (σ σ' : Plc) : Prop := ∀ r p, σ r = some p → σ' r = some p

theorem L.Den.mono {E : Env} {σ σ' : Plc} (h : σ.le σ') {x : L} {v : Value} (hx : x.Den E σ v) : x.Den E σ' v := by
  cases x with
  | int _ _ => exact hx
  | bool _ => exact hx
  | ptr r off => obtain ⟨p, a, b⟩ := hx; exact ⟨p, h _ _ a, b⟩
  | px r off s i n => obtain ⟨p, a, b⟩ := hx; exact ⟨p, h _ _ a, b⟩
  | slc r off n c => obtain ⟨p, c, a, b⟩ := hx; exact ⟨p, c, h _ _ a, b⟩
  | str _ => exact hx
  | ifp t r off => obtain ⟨p, a, b⟩ := hx; exact ⟨p, h _ _ a, b⟩
  | fn f caps => obtain ⟨vs, a, b⟩ := hx; exact ⟨vs, a, b.mono fun _ _ ⟨p, hp, e⟩ => ⟨p, h _ _ hp, e⟩⟩
  | gho _ => exact hx
  | cst _ => exact hx
  | any => trivial

theorem S1.Den.mono {E : Env} {σ σ' : Plc} (h : σ.le σ') {x : S1} {v : Value} (hx : x.Den E σ v) : x.Den E σ' v := by
  cases x with
  | lf _ => exact L.Den.mono h hx
  | agg cs => obtain ⟨vs, a, b⟩ := hx; exact ⟨vs, a, b.mono fun _ _ h' => h'.mono h⟩

theorem S.Den.mono {E : Env} {σ σ' : Plc} (h : σ.le σ') {x : S} {v : Value} (hx : x.Den E σ v) : x.Den E σ' v := by
  cases x with
  | one _ => exact S1.Den.mono h hx
  | tup cs => obtain ⟨vs, a, b⟩ := hx; exact ⟨vs, a, b.mono fun _ _ h' => h'.mono h⟩

theorem Plc.le_refl (σ : Plc) : σ.le σ := fun _ _ h => h
theorem Plc.le_trans {a b c : Plc} (h : a.le b) (k : b.le c) : a.le c := fun _ _ x => k _ _ (h _ _ x)

/-! ## instructions -/

def bv (k : IntKind) (f : BitVec k.bits → BitVec k.bits → BitVec k.bits) (x y : Int) : Int := k.wrap (f (BitVec.ofInt k.bits x) (BitVec.ofInt k.bits y)).toNat

def b2i (b : Bool) : Int := if b then 1 else 0

def op2 (o : BinOp) (k : IntKind) (x y : Int) : Int :=
  match o with
  | .add => k.wrap (x + y)
  | .sub => k.wrap (x - y)
  | .mul => k.wrap (x * y)
  | .quo => k.wrap (x.tdiv y)
  | .rem => x.tmod y
  | .and => bv k (· &&& ·) x y
  | .or => bv k (· ||| ·) x y
  | .xor => bv k (· ^^^ ·) x y
  | .andNot => bv k (fun a b => a &&& ~~~b) x y
  | .shl => k.wrap (x * 2 ^ min y.toNat k.bits)
  | .shr => x.fdiv (2 ^ min y.toNat k.bits)
  | .eql => b2i (x == y)
  | .neq => b2i (x != y)
  | .lss => b2i (x < y)
  | .leq => b2i (x ≤ y)
  | .gtr => b2i (x > y)
  | .geq => b2i (x ≥ y)

inductive Ins where
  | op2 (o : BinOp) (k : IntKind) (a b : A)
  | conv (k : IntKind) (a : A)
  | ite (c a b : A)
  | eqs (bytes : Bool) (xs ys : List A)
  | sel (xs : List A) (i : A)
  | max (x y : A)
  | min (x y : A)
  | app (c : Nat) (args : List A) (j : Nat)

/-- what a table of functions gives -/
abbrev Fns := Nat → List Int → List Int
abbrev Prs := Nat → List Int → Prop

def Ins.ev (F : Fns) (ρ : Nat → Int) : Ins → Int
  | .op2 o k a b => X.op2 o k (a.ev ρ) (b.ev ρ)
  | .conv k a => k.wrap (a.ev ρ)
  | .ite c a b => if c.ev ρ ≠ 0 then a.ev ρ else b.ev ρ
  | .eqs true xs ys => b2i ((xs.map fun a => UInt8.ofNat (a.ev ρ).toNat) == ys.map fun a => UInt8.ofNat (a.ev ρ).toNat)
  | .eqs false xs ys => b2i ((xs.map (A.ev ρ)) == ys.map (A.ev ρ))
  | .sel xs i => (xs.getD (i.ev ρ).toNat (.l 0)).ev ρ
  | .max x y => if (y.ev ρ) > (x.ev ρ) then y.ev ρ else x.ev ρ
  | .min x y => if (y.ev ρ) < (x.ev ρ) then y.ev ρ else x.ev ρ
  | .app c args j => (F c (args.map (A.ev ρ))).getD j 0

inductive Asm where
  | cond (a : A) (b : Bool)
  | nn (a : A)
  | rng (a : A) (len : Nat)
  | pre (c : Nat) (args : List A)

def Asm.holds (pr : Prs) (ρ : Nat → Int) : Asm → Prop
  | .cond a b => (a.ev ρ != 0) = b
  | .nn a => 0 ≤ a.ev ρ
  | .rng a len => 0 ≤ a.ev ρ ∧ a.ev ρ < len
  | .pre c args => pr c (args.map (A.ev ρ))

structure G where
  ssa : List (Nat × Ins)
  n : Nat
  asm : List Asm
  orc : List Bool
  wr : List Nat

def Sat (F : Fns) (ρ : Nat → Int) (l : List (Nat × Ins)) : Prop := ∀ x ∈ l, ρ x.1 = x.2.ev F ρ
def Hold (pr : Prs) (ρ : Nat → Int) (l : List Asm) : Prop := ∀ x ∈ l, x.holds pr ρ

def G.push (g : G) (i : Ins) : A × G := (.v g.n, { g with ssa := (g.n, i) :: g.ssa, n := g.n + 1 })
def G.ask (g : G) (x : Asm) : G := { g with asm := x :: g.asm }

/-- g' has come of g -/
structure G.le (g g' : G) : Prop where
  ssa : ∀ x ∈ g.ssa, x ∈ g'.ssa
  asm : ∀ x ∈ g.asm, x ∈ g'.asm
  wr : ∀ x ∈ g.wr, x ∈ g'.wr

theorem G.le_refl (g : G) : g.le g := ⟨fun _ h => h, fun _ h => h, fun _ h => h⟩
theorem G.le_trans {a b c : G} (h : a.le b) (k : b.le c) : a.le c :=
  ⟨fun _ x => k.ssa _ (h.ssa _ x), fun _ x => k.asm _ (h.asm _ x), fun _ x => k.wr _ (h.wr _ x)⟩
theorem G.le_push (g : G) (i : Ins) : g.le (g.push i).2 := ⟨fun _ h => List.mem_cons_of_mem _ h, fun _ h => h, fun _ h => h⟩
theorem G.le_ask (g : G) (i : Asm) : g.le (g.ask i) := ⟨fun _ h => h, fun _ h => List.mem_cons_of_mem _ h, fun _ h => h⟩

/-! ## the state -/

abbrev Tm := List (Nat × S)
abbrev Mem := List (List L)

def lk : Tm → Nat → S
  | [], _ => .tup []
  | (u, s) :: r, t => match Nat.beq u t with | true => s | false => lk r t

def lfV : Value → L
  | .int k n => .int k (.l n)
  | .bool b => .bool (.l (b2i b))
  | v => .cst v

def ofV : Value → S
  | .agg cs => .one (.agg (cs.toList.map lfV))
  | .tuple _ => .one (.lf .any)
  | v => .one (.lf (lfV v))

theorem lfV_den (E : Env) (σ : Plc) (v : Value) : (lfV v).Den E σ v := by
  cases v <;> simp [lfV, L.Den, A.ev, b2i]
  rename_i b; cases b <;> rfl

theorem lfVs_den (E : Env) (σ : Plc) (vs : List Value) : All2 (L.Den E σ) (vs.map lfV) vs :=
  All2.map_left (by induction vs with | nil => exact .nil | cons v vs ih => exact .cons (lfV_den E σ v) ih)

theorem ofV_den (E : Env) (σ : Plc) (v : Value) : (ofV v).Den E σ v := by
  cases v with
  | agg cs => exact ⟨cs.toList, rfl, lfVs_den E σ _⟩
  | tuple _ => trivial
  | bool b => exact lfV_den E σ (.bool b)
  | int k n => exact lfV_den E σ (.int k n)
  | _ => exact (rfl : L.Den E σ (.cst _) _)

def opd (T : Tm) : Operand → S
  | .tmp t => lk T t
  | .const v => ofV v
  | .func f => .one (.lf (.fn f []))
  | .global g => .one (.lf (.cst (.pointer (some ⟨g, 0, none⟩))))

/-- the frame reads as T -/
structure TRep (E : Env) (σ : Plc) (T : Tm) (nt : Nat) (a : Act) : Prop where
  get : ∀ t, (lk T t).Den E σ (a.tmps.getD t undef)
  size : a.tmps.size = nt
  defers : a.defers = []

theorem TRep.mono {E : Env} {σ σ' : Plc} {T : Tm} {nt : Nat} {a : Act} (hs : σ.le σ') (h : TRep E σ T nt a) : TRep E σ' T nt a :=
  ⟨fun t => (h.get t).mono hs, h.size, h.defers⟩

theorem TRep.opd {E : Env} {σ : Plc} {T : Tm} {nt : Nat} {a : Act} (h : TRep E σ T nt a) (x : Operand) : (X.opd T x).Den E σ (a.eval x) := by
  cases x with
  | tmp t => exact h.get t
  | const v => exact ofV_den E σ v
  | func f => exact ⟨[], rfl, .nil⟩
  | global g => rfl

theorem TRep.put {E : Env} {σ : Plc} {T : Tm} {nt : Nat} {a : Act} (h : TRep E σ T nt a) {d : Nat} (hd : d < nt) {s : S} {v : Value} (hv : s.Den E σ v) :
    TRep E σ ((d, s) :: T) nt (a.put (some d) v) := by
  refine ⟨fun t => ?_, by simp [Act.put, h.size], h.defers⟩
  simp only [lk, Act.put]
  by_cases e : d = t
  · subst e
    have : Nat.beq d d = true := by simp
    rw [this]
    have hlt : d < a.tmps.size := by rw [h.size]; exact hd
    simpa [Array.getD_eq_getD_getElem?, hlt] using hv
  · have : Nat.beq d t = false := by cases h : Nat.beq d t with | false => rfl | true => exact absurd (Nat.eq_of_beq_eq_true h) e
    rw [this]
    have := h.get t
    simpa [Array.getD_eq_getD_getElem?, Array.getElem?_setIfInBounds_ne e] using this

def CellsAt (E : Env) (σ : Plc) (w : World) (p : Nat × Nat) (cs : List L) : Prop :=
  ∀ i c, cs[i]? = some c → ∃ v, w.cell? (adr p i) = some v ∧ c.Den E σ v ∧ w.frozen? (adr p i) = false

structure MRep (base : Nat) (E : Env) (σ : Plc) (m : Mem) (w : World) : Prop where
  rep : ∀ r p cs, σ r = some p → m[r]? = some cs → CellsAt E σ w p cs
  dis : ∀ r r' p p' cs cs', r ≠ r' → σ r = some p → σ r' = some p' → m[r]? = some cs → m[r']? = some cs' → ∀ i j, i < cs.length → j < cs'.length → p.1 = p'.1 → p.2 + i ≠ p'.2 + j
  bas : ∀ r p, σ r = some p → base ≤ p.1
  lt : ∀ r p, σ r = some p → p.1 < w.heap.size

/-- w' has come of w: only cells in S may have turned -/
structure Ev (S : Nat → Nat → Prop) (w w' : World) : Prop where
  os : w'.os = w.os
  tape : w'.tape = w.tape
  output : w'.output = w.output
  size : w.heap.size ≤ w'.heap.size
  block : ∀ b, b < w.heap.size → (∀ o, ¬ S b o) → w'.heap[b]? = w.heap[b]?
  cell : ∀ b o, b < w.heap.size → ¬ S b o → w'.cell? ⟨b, o, none⟩ = w.cell? ⟨b, o, none⟩
  frz : ∀ b o, b < w.heap.size → w'.frozen? ⟨b, o, none⟩ = w.frozen? ⟨b, o, none⟩

theorem Ev.refl (S : Nat → Nat → Prop) (w : World) : Ev S w w := ⟨rfl, rfl, rfl, Nat.le_refl _, fun _ _ _ => rfl, fun _ _ _ _ => rfl, fun _ _ _ => rfl⟩

theorem Ev.trans {S S' S'' : Nat → Nat → Prop} {a b c : World} (h : Ev S a b) (k : Ev S' b c)
    (hs : ∀ x o, x < a.heap.size → S x o → S'' x o) (hs' : ∀ x o, x < a.heap.size → S' x o → S'' x o) : Ev S'' a c where
  os := k.os.trans h.os
  tape := k.tape.trans h.tape
  output := k.output.trans h.output
  size := Nat.le_trans h.size k.size
  block x hx hn := (k.block x (Nat.lt_of_lt_of_le hx h.size) fun o ho => hn o (hs' x o hx ho)).trans (h.block x hx fun o ho => hn o (hs x o hx ho))
  cell x o hx hn := (k.cell x o (Nat.lt_of_lt_of_le hx h.size) fun ho => hn (hs' x o hx ho)).trans (h.cell x o hx fun ho => hn (hs x o hx ho))
  frz x o hx := (k.frz x o (Nat.lt_of_lt_of_le hx h.size)).trans (h.frz x o hx)

theorem Ev.drew (w : World) (S : Nat → Nat → Prop) : Ev S w { w with drawn := w.drawn + 1 } := ⟨rfl, rfl, rfl, Nat.le_refl _, fun _ _ _ => rfl, fun _ _ _ _ => rfl, fun _ _ _ => rfl⟩

theorem Ev.alloc (w : World) (S : Nat → Nat → Prop) (o : Obj) : Ev S w (w.alloc o) where
  os := rfl
  tape := rfl
  output := rfl
  size := by simp
  block b hb _ := by show (w.heap.push o)[b]? = _; rw [Array.getElem?_push, if_neg (by omega)]
  cell b o' hb _ := World.cell?_alloc_lt _ _ _ hb
  frz b o' hb := World.frozen?_alloc_old _ _ _ (Nat.ne_of_lt hb)

theorem Ev.setCell (w : World) {S : Nat → Nat → Prop} (a : Addr) (v : Value) (ha : S a.block a.off) : Ev S w (w.setCell a v) where
  os := rfl
  tape := rfl
  output := rfl
  size := by simp
  block b _ hn := by
    simp only [World.setCell, Array.getElem?_modify]
    rw [if_neg (fun e : a.block = b => hn a.off (e ▸ ha))]
  cell b o _ hn := World.cell?_setCell_other _ _ _ _ (fun e => hn (by rw [e] at ha; exact ha))
  frz b o _ := World.frozen?_setCell _ _ _ _

end Go.X

namespace Go.X

theorem adr_add (p : Nat × Nat) (o i : Nat) : (adr p o).add i = adr p (o + i) := by
  unfold Addr.add adr
  by_cases h : i = 0
  · subst h; simp
  · simp [h, Nat.add_assoc]

/-! ## reading and writing rows of cells -/

theorem run_loadCellsFrom (P : Program) (w : World) (p : Nat × Nat) (off : Nat) : ∀ (vs : List Value) (i : Nat) (acc : Array Value),
    (∀ j v, vs[j]? = some v → w.cell? (adr p (off + i + j)) = some v) →
    (loadCellsFrom (adr p off) i vs.length acc).run P w = .ok (acc ++ vs.toArray) w
  | [], i, acc, _ => by simp [loadCellsFrom, pure]
  | v :: vs, i, acc, h => by
    have h0 := h 0 v rfl
    have ih := run_loadCellsFrom P w p off vs (i + 1) (acc.push v) (fun j u hj => by
      have := h (j + 1) u (by simpa using hj)
      have e : off + i + (j + 1) = off + (i + 1) + j := by omega
      rw [e] at this; exact this)
    simp only [List.length_cons, loadCellsFrom, load, Sem.run_bind]
    rw [adr_add]
    have : (Sem.load .plain (adr p (off + i)) Sem.pure).run P w = .ok v w := by
      simp only [Nat.add_zero] at h0
      simp [Sem.run, h0]
    rw [this]
    simp only [Result.andThen_ok]
    rw [ih]
    simp

theorem run_loadCells (P : Program) (w : World) (p : Nat × Nat) (off : Nat) (vs : List Value)
    (h : ∀ j v, vs[j]? = some v → w.cell? (adr p (off + j)) = some v) : (loadCells (adr p off) vs.length).run P w = .ok ⟨vs⟩ w := by
  have := run_loadCellsFrom P w p off vs 0 #[] (by simpa using h)
  simpa [loadCells] using this

/-- what a leaf that may be stored bears -/
def storable : Value → Bool
  | .agg _ | .tuple _ => false
  | _ => true

theorem run_store1 (P : Program) (w : World) (a : Addr) (v u : Value) (hv : storable v = true) (hc : w.cell? a = some u) (hf : w.frozen? a = false) :
    (store a v).run P w = .ok () (w.setCell a v) := by
  cases v <;> simp_all [store, Sem.run, storable]

theorem run_storeCells (P : Program) (p : Nat × Nat) (off : Nat) : ∀ (vs : List Value) (i : Nat) (w : World),
    (∀ v ∈ vs, storable v = true) →
    (∀ j, j < vs.length → (∃ u, w.cell? (adr p (off + i + j)) = some u) ∧ w.frozen? (adr p (off + i + j)) = false) →
    ∃ w', (storeCells (adr p off) vs i).run P w = .ok () w' ∧ Ev (fun b o => b = p.1 ∧ p.2 + (off + i) ≤ o ∧ o < p.2 + (off + i + vs.length)) w w' ∧
      (∀ j v, vs[j]? = some v → w'.cell? (adr p (off + i + j)) = some v) ∧ w'.heap.size = w.heap.size
  | [], i, w, _, _ => ⟨w, by simp [storeCells, pure], Ev.refl _ _, by simp, rfl⟩
  | v :: vs, i, w, hv, hc => by
    obtain ⟨⟨u, hu⟩, hf⟩ := hc 0 (by simp)
    simp only [Nat.add_zero] at hu hf
    have h1 := run_store1 P w (adr p (off + i)) v u (hv v (by simp)) hu hf
    obtain ⟨w', hr, hev, hcell, hsz⟩ := run_storeCells P p off vs (i + 1) (w.setCell (adr p (off + i)) v) (fun x hx => hv x (by simp [hx])) (fun j hj => by
      obtain ⟨⟨u', hu'⟩, hf'⟩ := hc (j + 1) (by simpa using hj)
      have e : off + i + (j + 1) = off + (i + 1) + j := by omega
      rw [e] at hu' hf'
      refine ⟨⟨u', ?_⟩, by rw [World.frozen?_setCell]; exact hf'⟩
      rw [World.cell?_setCell_other]
      · exact hu'
      · unfold adr; intro he; injection he; omega)
    refine ⟨w', ?_, ?_, ?_, by rw [hsz]; simp⟩
    · simp only [storeCells, Sem.run_bind]
      rw [adr_add, h1]
      simp only [Result.andThen_ok]
      exact hr
    · refine Ev.trans (Ev.setCell (S := fun b o => b = p.1 ∧ o = p.2 + (off + i)) w (adr p (off + i)) v ⟨rfl, rfl⟩) hev ?_ ?_
      · rintro b o _ ⟨h1, h2⟩; refine ⟨h1, by omega, ?_⟩; simp only [List.length_cons]; omega
      · rintro b o _ ⟨h1, h2, h3⟩; refine ⟨h1, by omega, ?_⟩; simp only [List.length_cons]; omega
    · intro j x hj
      cases j with
      | zero =>
        simp at hj; subst hj
        have hlt := World.block_lt_of_cell? w (adr p (off + i)) hu
        have : w'.cell? (adr p (off + i)) = (w.setCell (adr p (off + i)) v).cell? (adr p (off + i)) :=
          hev.cell p.1 (p.2 + (off + i)) (by rw [World.size_setCell]; exact hlt) (by rintro ⟨_, h, _⟩; omega)
        rw [Nat.add_zero, this]
        exact World.cell?_setCell_same _ _ _ hu
      | succ j =>
        have := hcell j x (by simpa using hj)
        have e : off + i + (j + 1) = off + (i + 1) + j := by omega
        rw [e]; exact this

/-! ## types -/

def agT (P : Program) (t : TypeId) : Option Bool :=
  match P.underlying t with
  | some (.struct _) => some true
  | some (.array _ _) => some true
  | some _ => some false
  | none => none

def szT (P : Program) (t : TypeId) : Option Nat := (P.info? t).map (·.size)

theorem run_und {P : Program} {t : TypeId} {d : TypeDesc} (h : P.underlying t = some d) (w : World) : (underlying t).run P w = .ok d w := by
  simp [underlying, program, Sem.run, h, pure]

theorem run_info {P : Program} {t : TypeId} {i : TypeInfo} (h : P.info? t = some i) (w : World) : (typeInfo t).run P w = .ok i w := by
  simp [typeInfo, program, Sem.run, h, pure]

theorem run_ag {P : Program} {t : TypeId} {b : Bool} (h : agT P t = some b) (w : World) : (isAgg t).run P w = .ok b w := by
  unfold agT at h
  cases hu : P.underlying t with
  | none => rw [hu] at h; simp at h
  | some d =>
    rw [hu] at h
    unfold isAgg
    rw [Sem.run_bind, run_und hu]
    simp only [Result.andThen_ok]
    cases d <;> simp at h <;> subst h <;> simp [pure]

theorem run_sz {P : Program} {t : TypeId} {n : Nat} (h : szT P t = some n) (w : World) : (sizeOf t).run P w = .ok n w := by
  unfold szT at h
  cases hi : P.info? t with
  | none => rw [hi] at h; simp at h
  | some i =>
    rw [hi] at h
    simp at h
    simp [sizeOf, run_info hi, pure, Sem.run, h]

def zvT (P : Program) (t : TypeId) : Option Value := (P.info? t).bind (·.zero)

theorem run_zv {P : Program} {t : TypeId} {z : Value} (h : zvT P t = some z) (w : World) : (zeroValue t).run P w = .ok z w := by
  unfold zvT at h
  cases hi : P.info? t with
  | none => rw [hi] at h; simp at h
  | some i =>
    rw [hi] at h
    simp at h
    simp [zeroValue, run_info hi, pure, h]

/-! ## aggregates -/

def S.cells : S → Option (List L)
  | .one (.lf x) => some [x]
  | .one (.agg cs) => some cs
  | .tup _ => none

/-- a leaf that denotes no aggregate -/
def L.plain : L → Bool
  | .cst v => storable v
  | .gho _ => false
  | .any => false
  | _ => true

theorem L.Den.plain {E : Env} {σ : Plc} {x : L} {v : Value} (hp : x.plain = true) (h : x.Den E σ v) : storable v = true := by
  cases x with
  | int _ _ => cases h; rfl
  | bool _ => cases h; rfl
  | ptr r off => obtain ⟨p, _, rfl⟩ := h; rfl
  | px r off s i n => obtain ⟨p, _, _, _, rfl⟩ := h; rfl
  | slc r off n c => obtain ⟨p, c, _, _, _, rfl⟩ := h; rfl
  | str _ => cases h; rfl
  | ifp t r off => obtain ⟨p, _, rfl⟩ := h; rfl
  | fn f caps => obtain ⟨vs, rfl, _⟩ := h; rfl
  | gho _ => simp [L.plain] at hp
  | cst _ => cases h; exact hp
  | any => simp [L.plain] at hp

theorem cells_of_storable {v : Value} (h : storable v = true) : v.cells = #[v] := by cases v <;> simp_all [storable, Value.cells]

theorem S.cells_den {E : Env} {σ : Plc} {s : S} {cs : List L} {v : Value} (h : s.cells = some cs) (hp : cs.all L.plain = true) (hd : s.Den E σ v) :
    ∃ vs, v.cells = ⟨vs⟩ ∧ All2 (L.Den E σ) cs vs ∧ ∀ x ∈ vs, storable x = true := by
  have key : ∀ (cs : List L) (vs : List Value), cs.all L.plain = true → All2 (L.Den E σ) cs vs → ∀ x ∈ vs, storable x = true := by
    intro cs vs hp h
    induction h with
    | nil => intro x hx; cases hx
    | cons h _ ih =>
      simp only [List.all_cons, Bool.and_eq_true] at hp
      intro x hx
      cases hx with
      | head => exact L.Den.plain hp.1 h
      | tail _ hx => exact ih hp.2 x hx
  cases s with
  | tup _ => simp [S.cells] at h
  | one x =>
    cases x with
    | lf x =>
      simp [S.cells] at h; subst h
      have hs : storable v = true := L.Den.plain (by simpa using hp) hd
      exact ⟨[v], cells_of_storable hs, .cons hd .nil, by simpa using hs⟩
    | agg cs' =>
      simp [S.cells] at h; subst h
      obtain ⟨vs, rfl, ha⟩ := hd
      exact ⟨vs, rfl, ha, key _ _ hp ha⟩

/-! ## regions -/

def spl (cs : List L) (off : Nat) (new : List L) : List L := cs.take off ++ new ++ cs.drop (off + new.length)

theorem spl_length {cs : List L} {off : Nat} {new : List L} (h : off + new.length ≤ cs.length) : (spl cs off new).length = cs.length := by
  simp [spl]; omega

theorem spl_in {cs : List L} {off : Nat} {new : List L} (h : off + new.length ≤ cs.length) {i : Nat} (h1 : off ≤ i) (h2 : i < off + new.length) :
    (spl cs off new)[i]? = new[i - off]? := by
  unfold spl
  rw [List.append_assoc, List.getElem?_append_right (by simp; omega)]
  simp only [List.length_take]
  rw [Nat.min_eq_left (by omega), List.getElem?_append_left (by omega)]

theorem spl_out {cs : List L} {off : Nat} {new : List L} (h : off + new.length ≤ cs.length) {i : Nat} (h1 : i < off ∨ off + new.length ≤ i) :
    (spl cs off new)[i]? = cs[i]? := by
  unfold spl
  rcases h1 with h1 | h1
  · rw [List.append_assoc, List.getElem?_append_left (by simp; omega), List.getElem?_take, if_pos h1]
  · rw [List.getElem?_append_right (by simp; omega)]
    simp only [List.length_append, List.length_take, List.getElem?_drop]
    congr 1
    omega

/-- a segment of a region, read -/
theorem MRep.seg {base : Nat} {E : Env} {σ : Plc} {m : Mem} {w : World} (h : MRep base E σ m w) {r : Nat} {p : Nat × Nat} {cs : List L} (hr : σ r = some p) (hm : m[r]? = some cs)
    (off n : Nat) (hn : off + n ≤ cs.length) : ∃ vs, vs.length = n ∧ All2 (L.Den E σ) ((cs.drop off).take n) vs ∧
      (∀ j v, vs[j]? = some v → w.cell? (adr p (off + j)) = some v) ∧ ∀ j, j < n → w.frozen? (adr p (off + j)) = false := by
  have hc := h.rep r p cs hr hm
  induction n with
  | zero => exact ⟨[], rfl, by simpa using All2.nil, by simp, by omega⟩
  | succ n ih =>
    obtain ⟨vs, hl, ha, hv, hf⟩ := ih (by omega)
    obtain ⟨c, hcc⟩ : ∃ c, cs[off + n]? = some c := ⟨cs[off + n]'(by omega), by simp⟩
    obtain ⟨v, h1, h2, h3⟩ := hc _ _ hcc
    refine ⟨vs ++ [v], by simp [hl], ?_, ?_, ?_⟩
    · have : (cs.drop off).take (n + 1) = (cs.drop off).take n ++ [c] := by
        rw [List.take_add_one]
        simp [List.getElem?_drop, hcc]
      rw [this]
      exact ha.append (.cons h2 .nil)
    · intro j u hj
      by_cases hlt : j < vs.length
      · rw [List.getElem?_append_left hlt] at hj; exact hv j u hj
      · rw [List.getElem?_append_right (by omega)] at hj
        have hj0 : j - vs.length = 0 := by
          rcases Nat.eq_zero_or_pos (j - vs.length) with h | h
          · exact h
          · rw [List.getElem?_eq_none (by simp; omega)] at hj; simp at hj
        rw [hj0] at hj; simp at hj; subst hj
        have : j = n := by omega
        subst this; exact h1
    · intro j hj
      by_cases hlt : j < n
      · exact hf j hlt
      · have : j = n := by omega
        subst this; exact h3

/-- new regions -/
structure News (base : Nat) (E : Env) (σ : Plc) (n : Nat) (news : Mem) (w w' : World) : Prop where
  at_ : ∀ j cs, news[j]? = some cs → ∃ p, σ (n + j) = some p ∧ w.heap.size ≤ p.1 ∧ p.1 < w'.heap.size ∧ CellsAt E σ w' p cs
  apart : ∀ (i j : Nat) (p q : Nat × Nat) (cs cs' : List L), news[i]? = some cs → news[j]? = some cs' → i ≠ j → σ (n + i) = some p → σ (n + j) = some q → ∀ a b, a < cs.length → b < cs'.length → p.1 = q.1 → p.2 + a ≠ q.2 + b

theorem News.nil (base : Nat) (E : Env) (σ : Plc) (n : Nat) (w w' : World) : News base E σ n [] w w' := ⟨by simp, by simp⟩

/-- cells that no turn reached -/
theorem CellsAt.ev {E : Env} {σ σ' : Plc} {S : Nat → Nat → Prop} {w w' : World} {p : Nat × Nat} {cs : List L} (h : CellsAt E σ w p cs) (hs : σ.le σ') (he : Ev S w w')
    (hn : ∀ i, i < cs.length → ¬ S p.1 (p.2 + i)) : CellsAt E σ' w' p cs := by
  intro i c hc
  obtain ⟨v, h1, h2, h3⟩ := h i c hc
  have hi : i < cs.length := by
    rcases Nat.lt_or_ge i cs.length with h | h
    · exact h
    · rw [List.getElem?_eq_none h] at hc; simp at hc
  have hlt := World.block_lt_of_cell? w (adr p i) h1
  refine ⟨v, ?_, h2.mono hs, ?_⟩
  · rw [← h1]; exact he.cell p.1 (p.2 + i) hlt (hn i hi)
  · rw [← h3]; exact he.frz p.1 (p.2 + i) hlt

/-- a quiet step: what stood still stands, new regions are laid behind -/
theorem MRep.quiet {base : Nat} {E : Env} {σ σ' : Plc} {M : Mem} {w w' : World} {n : Nat} {news : Mem} (h : MRep base E σ M w)
    (hle : σ.le σ') (hsame : ∀ i, (i < n ∨ n + news.length ≤ i) → σ' i = σ i)
    (hM : ∀ j cs, news[j]? = some cs → ∀ cs', M[n + j]? = some cs' → cs' = cs)
    (hN : News base E σ' n news w w') (he : Ev (fun _ _ => False) w w') (hbase : base ≤ w.heap.size) : MRep base E σ' M w' := by
  have old : ∀ r p, σ' r = some p → (σ r = some p) ∨ ∃ j cs, j < news.length ∧ r = n + j ∧ news[j]? = some cs := by
    intro r p hr
    by_cases hc : r < n ∨ n + news.length ≤ r
    · rw [hsame r hc] at hr; exact .inl hr
    · refine .inr ⟨r - n, news[r - n]'(by omega), by omega, by omega, by simp⟩
  have newlo : ∀ r p j cs, σ' r = some p → r = n + j → news[j]? = some cs → w.heap.size ≤ p.1 ∧ p.1 < w'.heap.size ∧ CellsAt E σ' w' p cs := by
    intro r p j cs hr e hj
    obtain ⟨q, hq, h1, h2, h3⟩ := hN.at_ j cs hj
    subst e
    rw [hq] at hr; cases hr
    exact ⟨h1, h2, h3⟩
  refine ⟨?_, ?_, ?_, ?_⟩
  · intro r p cs hr hm
    rcases old r p hr with ho | ⟨j, cs', hj, e, hcs⟩
    · exact (h.rep r p cs ho hm).ev hle he (fun _ _ h => h)
    · obtain ⟨_, _, h3⟩ := newlo r p j cs' hr e hcs
      have := hM j cs' hcs cs (e ▸ hm)
      subst this
      exact h3
  · intro r r' p p' cs cs' hne hr hr' hm hm' i j hi hj heq
    rcases old r p hr with ho | ⟨a, ca, ha, ea, hca⟩
    · rcases old r' p' hr' with ho' | ⟨b, cb, hb, eb, hcb⟩
      · exact h.dis r r' p p' cs cs' hne ho ho' hm hm' i j hi hj heq
      · have h1 := h.lt r p ho
        have h2 := (newlo r' p' b cb hr' eb hcb).1
        omega
    · rcases old r' p' hr' with ho' | ⟨b, cb, hb, eb, hcb⟩
      · have h1 := h.lt r' p' ho'
        have h2 := (newlo r p a ca hr ea hca).1
        omega
      · have e1 := hM a ca hca cs (ea ▸ hm)
        have e2 := hM b cb hcb cs' (eb ▸ hm')
        subst e1; subst e2
        exact hN.apart a b p p' cs cs' hca hcb (by omega) (ea ▸ hr) (eb ▸ hr') i j hi hj heq
  · intro r p hr
    rcases old r p hr with ho | ⟨j, cs', hj, e, hcs⟩
    · exact h.bas r p ho
    · have := (newlo r p j cs' hr e hcs).1; omega
  · intro r p hr
    rcases old r p hr with ho | ⟨j, cs', hj, e, hcs⟩
    · exact Nat.lt_of_lt_of_le (h.lt r p ho) he.size
    · exact (newlo r p j cs' hr e hcs).2.1

/-- a store into a region -/
theorem MRep.store {base : Nat} {E : Env} {σ : Plc} {m : Mem} {w w' : World} (h : MRep base E σ m w) {r : Nat} {p : Nat × Nat} {cs : List L} (hr : σ r = some p) (hm : m[r]? = some cs)
    {off : Nat} {new : List L} {vs : List Value} (hn : off + new.length ≤ cs.length) (ha : All2 (L.Den E σ) new vs)
    (he : Ev (fun b o => b = p.1 ∧ p.2 + off ≤ o ∧ o < p.2 + (off + vs.length)) w w') (hv : ∀ j v, vs[j]? = some v → w'.cell? (adr p (off + j)) = some v) :
    MRep base E σ (m.set r (spl cs off new)) w' := by
  have hlr : r < m.length := by
    rcases Nat.lt_or_ge r m.length with h | h
    · exact h
    · rw [List.getElem?_eq_none h] at hm; simp at hm
  have hl := ha.length_eq
  have look : ∀ x c, (m.set r (spl cs off new))[x]? = some c → (x = r ∧ c = spl cs off new) ∨ (x ≠ r ∧ m[x]? = some c) := by
    intro x c hx
    by_cases e : r = x
    · subst e; rw [List.getElem?_set_self hlr] at hx; exact .inl ⟨rfl, by simpa using hx.symm⟩
    · rw [List.getElem?_set_ne e] at hx; exact .inr ⟨fun h => e h.symm, hx⟩
  refine ⟨?_, ?_, h.bas, fun r p hr => Nat.lt_of_lt_of_le (h.lt r p hr) he.size⟩
  · intro x q c hx hc
    rcases look x c hc with ⟨rfl, rfl⟩ | ⟨hne, hc⟩
    · rw [hr] at hx; cases hx
      intro i u hu
      by_cases hin : off ≤ i ∧ i < off + new.length
      · rw [spl_in hn hin.1 hin.2] at hu
        obtain ⟨v, hv1, hv2⟩ := ha.get _ _ hu
        have := hv _ _ hv1
        rw [show off + (i - off) = i from by omega] at this
        have hsome : ∃ c0, cs[i]? = some c0 := ⟨cs[i]'(by omega), by simp⟩
        obtain ⟨c0, hc0⟩ := hsome
        obtain ⟨v0, h1, _, h3⟩ := h.rep x p cs hr hm i c0 hc0
        refine ⟨v, this, hv2, ?_⟩
        rw [← h3]
        exact he.frz p.1 (p.2 + i) (World.block_lt_of_cell? w (adr p i) h1)
      · rw [spl_out hn (by omega)] at hu
        obtain ⟨v0, h1, h2, h3⟩ := h.rep x p cs hr hm i u hu
        have hlt := World.block_lt_of_cell? w (adr p i) h1
        refine ⟨v0, ?_, h2, ?_⟩
        · rw [← h1]; exact he.cell p.1 (p.2 + i) hlt (by rintro ⟨_, h4, h5⟩; omega)
        · rw [← h3]; exact he.frz p.1 (p.2 + i) hlt
    · have hx' := h.rep x q c hx hc
      refine hx'.ev (Plc.le_refl σ) he ?_
      rintro i hi ⟨h4, h5, h6⟩
      exact h.dis x r q p c cs hne hx hr hc hm i (q.2 + i - p.2) hi (by omega) h4 (by omega)
  · intro x y q q' c c' hne hx hy hc hc' i j hi hj heq
    have l1 : ∃ d, m[x]? = some d ∧ d.length = c.length := by
      rcases look x c hc with ⟨rfl, rfl⟩ | ⟨_, hc⟩
      · exact ⟨cs, hm, (spl_length hn).symm⟩
      · exact ⟨c, hc, rfl⟩
    have l2 : ∃ d, m[y]? = some d ∧ d.length = c'.length := by
      rcases look y c' hc' with ⟨rfl, rfl⟩ | ⟨_, hc⟩
      · exact ⟨cs, hm, (spl_length hn).symm⟩
      · exact ⟨c', hc, rfl⟩
    obtain ⟨d, hd, ld⟩ := l1
    obtain ⟨d', hd', ld'⟩ := l2
    exact h.dis x y q q' d d' hne hx hy hd hd' i j (by omega) (by omega) heq

end Go.X

namespace Go.X

inductive Eff where
  | quiet (news : Mem)
  | write (m' : Mem) (ws : List Nat)

structure R where
  s : S
  eff : Eff
  g : G

def R.val (s : S) (g : G) : R := ⟨s, .quiet [], g⟩

def kn : IntKind → Nat
  | .i8 => 0 | .i16 => 1 | .i32 => 2 | .i64 => 3 | .u8 => 4 | .u16 => 5 | .u32 => 6 | .u64 => 7

def kb (a b : IntKind) : Bool := Nat.beq (kn a) (kn b)
theorem kb_eq {a b : IntKind} (h : kb a b = true) : a = b := by cases a <;> cases b <;> first | rfl | (exact absurd h (by decide))

theorem A.ev_l (ρ : Nat → Int) (n : Int) : (A.l n).ev ρ = n := rfl

/-- an instruction, folded where its operands are literals -/
def mk2 (g : G) (o : BinOp) (k : IntKind) (a b : A) : A × G :=
  match a, b with
  | .l x, .l y => (.l (op2 o k x y), g)
  | a, b => g.push (.op2 o k a b)

def mkIte (g : G) (c a b : A) : A × G :=
  match c with
  | .l n => (if n = 0 then b else a, g)
  | c => g.push (.ite c a b)

theorem Sat.mono {F : Fns} {ρ : Nat → Int} {a b : G} (h : a.le b) (hs : Sat F ρ b.ssa) : Sat F ρ a.ssa := fun x hx => hs x (h.ssa x hx)
theorem Hold.mono {pr : Prs} {ρ : Nat → Int} {a b : G} (h : a.le b) (hs : Hold pr ρ b.asm) : Hold pr ρ a.asm := fun x hx => hs x (h.asm x hx)

theorem push_ev {F : Fns} {ρ : Nat → Int} {g : G} {i : Ins} (hs : Sat F ρ (g.push i).2.ssa) : (g.push i).1.ev ρ = i.ev F ρ := hs (g.n, i) (by simp [G.push])

theorem mk2_le (g : G) (o : BinOp) (k : IntKind) (a b : A) : g.le (mk2 g o k a b).2 := by
  unfold mk2; split <;> first | exact G.le_refl g | exact G.le_push g _
theorem mkIte_le (g : G) (a b c : A) : g.le (mkIte g a b c).2 := by
  unfold mkIte; split <;> first | exact G.le_refl g | exact G.le_push g _

theorem mk2_ev {F : Fns} {ρ : Nat → Int} {g : G} {o : BinOp} {k : IntKind} {a b : A} (hs : Sat F ρ (mk2 g o k a b).2.ssa) : (mk2 g o k a b).1.ev ρ = op2 o k (a.ev ρ) (b.ev ρ) := by
  unfold mk2 at *
  split at *
  · rfl
  · exact push_ev hs

theorem mkIte_ev {F : Fns} {ρ : Nat → Int} {g : G} {c a b : A} (hs : Sat F ρ (mkIte g c a b).2.ssa) : (mkIte g c a b).1.ev ρ = if c.ev ρ ≠ 0 then a.ev ρ else b.ev ρ := by
  unfold mkIte at *
  split at *
  · rename_i n
    simp only [A.ev]
    by_cases h : n = 0 <;> simp [h]
  · exact push_ev hs

/-! ## the two-place operations -/

def okShift (g : G) (y : A) : Option G :=
  match y with
  | .l n => if 0 ≤ n then some g else none
  | .v x => some (g.ask (.nn (.v x)))

def isShift : BinOp → Bool
  | .shl | .shr => true
  | _ => false

def isDiv : BinOp → Bool
  | .quo | .rem => true
  | _ => false

def isCmp : BinOp → Bool
  | .eql | .neq | .lss | .leq | .gtr | .geq => true
  | _ => false

/-- two rows of integers of the same kinds -/
def atoms2 : List L → List L → Option (List A × List A)
  | [], [] => some ([], [])
  | .int k a :: r, .int k' b :: s =>
    match kb k k', atoms2 r s with
    | true, some (as, bs) => some (a :: as, b :: bs)
    | _, _ => none
  | _, _ => none

/-- a type whose values are rows of integers, one cell each, all of one kind; how many -/
def flatT (P : Program) (t : TypeId) : Option Nat :=
  match P.underlying t with
  | some (.array n e) =>
    match P.underlying e, P.info? e with
    | some (.int _), some i => match Nat.beq i.size 1, agT P e with | true, some false => some n | _, _ => none
    | _, _ => none
  | some (.struct fs) =>
    if !(P.stoodInHeld t) && (fs.toList.zipIdx.all fun (f, i) => Nat.beq f.offset i && (f.name != "_") && (match P.underlying f.type with | some (.int _) => true | _ => false) && (match agT P f.type with | some false => true | _ => false))
    then some fs.size else none
  | _ => none

def flipB (g : G) (a : A) : A × G :=
  match a with
  | .l n => (.l (if n = 0 then 1 else 0), g)
  | .v x => g.push (.ite (.v x) (.l 0) (.l 1))

def outI (k : IntKind) (r : A × G) : Option (S × G) := some (.one (.lf (.int k r.1)), r.2)
def outB (r : A × G) : Option (S × G) := some (.one (.lf (.bool r.1)), r.2)

def eqBool (g : G) (neg : Bool) (a b : A) : A × G :=
  let c := mkIte g b (.l 1) (.l 0)
  let d := mkIte c.2 b (.l 0) (.l 1)
  match neg with
  | false => mkIte d.2 a c.1 d.1
  | true => mkIte d.2 a d.1 c.1

def eqList (g : G) (bytes neg : Bool) (as bs : List A) : A × G :=
  let c := g.push (.eqs bytes as bs)
  match neg with
  | false => c
  | true => flipB c.2 c.1

def isEq : BinOp → Option Bool
  | .eql => some false
  | .neq => some true
  | _ => none

def stBin (P : Program) (g : G) (o : BinOp) (t : TypeId) (x y : S) (yc : Bool) : Option (S × G) :=
  match x, y with
  | .one (.lf (.int k a)), .one (.lf (.int k' b)) =>
    match isShift o with
    | true => match okShift g b with
      | some g => outI k (mk2 g o k a b)
      | none => none
    | false => match kb k k' with
      | false => none
      | true =>
        match isDiv o with
        | true => match b with
          | .l n => match n == 0 with
            | true => none
            | false => outI k (mk2 g o k a (.l n))
          | .v _ => none
        | false =>
          match isCmp o with
          | true => outB (mk2 g o k a b)
          | false => outI k (mk2 g o k a b)
  | .one (.lf (.bool a)), .one (.lf (.bool b)) =>
    match P.underlying t, isEq o with
    | some .bool, some neg => outB (eqBool g neg a b)
    | _, _ => none
  | .one (.lf (.str as)), .one (.lf (.str bs)) =>
    match isEq o with
    | some neg => outB (eqList g true neg as bs)
    | none => none
  | .one (.agg cs), .one (.agg ds) =>
    match atoms2 cs ds, flatT P t, P.eqGuardType P.depth t, isEq o with
    | some (as, bs), some n, false, some neg =>
      match Nat.beq as.length n with
      | true => outB (eqList g false neg as bs)
      | false => none
    | _, _, _, _ => none
  | .one (.lf (.ifp _ _ _)), .one (.lf (.cst .nilIface)) =>
    match P.underlying t, isEq o with
    | some (.interface _), some neg => some (.one (.lf (.bool (.l (b2i neg)))), g)
    | _, _ => none
  | .one (.lf (.cst .nilIface)), .one (.lf (.cst .nilIface)) =>
    match P.underlying t, isEq o, yc with
    | some (.interface _), some neg, true => some (.one (.lf (.bool (.l (b2i !neg)))), g)
    | _, _, _ => none
  | _, _ => none

theorem op2_cmp_b2i {o : BinOp} {k : IntKind} {x y : Int} (h : isCmp o = true) : ∃ b, op2 o k x y = b2i b ∧ ∀ (P : Program) (w : World), (Op.intCmp o x y).run P w = .ok (.bool b) w := by
  cases o <;> simp [isCmp] at h <;> exact ⟨_, rfl, fun P w => by simp [Op.intCmp, pure]⟩

theorem b2i_ne (b : Bool) : (b2i b != 0) = b := by cases b <;> rfl

theorem flipB_le (g : G) (a : A) : g.le (flipB g a).2 := by unfold flipB; split <;> first | exact G.le_refl g | exact G.le_push g _
theorem flipB_ev {F : Fns} {ρ : Nat → Int} {g : G} {a : A} (hs : Sat F ρ (flipB g a).2.ssa) : ((flipB g a).1.ev ρ != 0) = !(a.ev ρ != 0) := by
  unfold flipB at *
  split at *
  · rename_i n; simp only [A.ev]; by_cases h : n = 0 <;> simp [h]
  · rename_i x
    rw [push_ev hs]
    simp only [Ins.ev, A.ev]
    by_cases h : ρ x = 0 <;> simp [h]

theorem atoms2_den {E : Env} {σ : Plc} : ∀ {cs ds : List L} {as bs : List A} {vs us : List Value}, atoms2 cs ds = some (as, bs) → All2 (L.Den E σ) cs vs → All2 (L.Den E σ) ds us →
    ∃ tr : List (IntKind × Int × Int), tr.length = as.length ∧ vs = tr.map (fun x => Value.int x.1 x.2.1) ∧ us = tr.map (fun x => Value.int x.1 x.2.2) ∧
      as.map (A.ev E.ρ) = tr.map (·.2.1) ∧ bs.map (A.ev E.ρ) = tr.map (·.2.2)
  | [], [], as, bs, vs, us, h, hd, hd' => by
    simp [atoms2] at h; obtain ⟨rfl, rfl⟩ := h; cases hd; cases hd'; exact ⟨[], rfl, rfl, rfl, rfl, rfl⟩
  | [], d :: ds, as, bs, vs, us, h, hd, hd' => by simp [atoms2] at h
  | c :: cs, [], as, bs, vs, us, h, hd, hd' => by cases c <;> simp [atoms2] at h
  | c :: cs, d :: ds, as, bs, vs, us, h, hd, hd' => by
    cases hd with
    | cons h1 h2 =>
      cases hd' with
      | cons h1' h2' =>
        cases c with
        | int k a =>
          cases d with
          | int k' b =>
            simp only [atoms2] at h
            split at h
            · rename_i as' bs' hk hr
              cases h
              have := kb_eq hk
              subst this
              obtain ⟨tr, hl, rfl, rfl, e1, e2⟩ := atoms2_den hr h2 h2'
              simp only [L.Den] at h1 h1'
              exact ⟨(k, a.ev E.ρ, b.ev E.ρ) :: tr, by simp [hl], by simp [h1], by simp [h1'], by simp [e1], by simp [e2]⟩
            · simp at h
          | _ => simp [atoms2] at h
        | _ => simp [atoms2] at h

theorem run_part1 {P : Program} {w : World} {e : TypeId} {xs : Array Value} {off : Nat} {v : Value} (h : agT P e = some false) (hv : xs[off]? = some v) :
    (part e xs off).run P w = .ok v w := by
  unfold part
  rw [Sem.run_bind, run_ag h]
  simp [hv]

theorem run_eqItems_flat {P : Program} (w : World) (d : Nat) {e : TypeId} {k0 : IntKind} (he : P.underlying e = some (.int k0)) (ha : agT P e = some false) (tr : List (IntKind × Int × Int)) :
    ∀ (m i : Nat), i + m = tr.length →
      (Op.eqItems (d + 1) e 1 ⟨tr.map fun x => Value.int x.1 x.2.1⟩ ⟨tr.map fun x => Value.int x.1 x.2.2⟩ (List.range' i m)).run P w =
        .ok ((tr.drop i).map (·.2.1) == (tr.drop i).map (·.2.2)) w
  | 0, i, h => by
    have : tr.drop i = [] := List.drop_eq_nil_of_le (by omega)
    simp [Op.eqItems, this]
  | m + 1, i, h => by
    have hi : i < tr.length := by omega
    have hd : tr.drop i = tr[i] :: tr.drop (i + 1) := List.drop_eq_getElem_cons hi
    have ih := run_eqItems_flat w d he ha tr m (i + 1) (by omega)
    have p1 : (part e ⟨tr.map fun x => Value.int x.1 x.2.1⟩ (i * 1)).run P w = .ok (.int tr[i].1 tr[i].2.1) w := run_part1 ha (by simp [hi])
    have p2 : (part e ⟨tr.map fun x => Value.int x.1 x.2.2⟩ (i * 1)).run P w = .ok (.int tr[i].1 tr[i].2.2) w := run_part1 ha (by simp [hi])
    rw [List.range'_succ]
    simp only [Op.eqItems, Sem.run_bind, p1, p2, Result.andThen_ok, run_equalIn_int _ _ _ _ _ _ _ he]
    have e1 : (tr.drop i).map (·.2.1) = tr[i].2.1 :: (tr.drop (i + 1)).map (·.2.1) := by rw [hd]; rfl
    have e2 : (tr.drop i).map (·.2.2) = tr[i].2.2 :: (tr.drop (i + 1)).map (·.2.2) := by rw [hd]; rfl
    rw [e1, e2]
    cases hc : tr[i].2.1 == tr[i].2.2
    · simp only [Bool.not_false, if_true, Sem.run_pure, List.cons_beq_cons, hc, Bool.false_and]
    · simp only [Bool.not_true, Bool.false_eq_true, if_false, ih, List.cons_beq_cons, hc, Bool.true_and]

theorem run_eqFields_flat {P : Program} (w : World) (d : Nat) (tr : List (IntKind × Int × Int)) :
    ∀ (fs : List Field) (i : Nat), i + fs.length = tr.length →
      (∀ j f, fs[j]? = some f → f.offset = i + j ∧ f.name ≠ "_" ∧ (∃ k0, P.underlying f.type = some (.int k0)) ∧ agT P f.type = some false) →
      (Op.eqFields (d + 1) ⟨tr.map fun x => Value.int x.1 x.2.1⟩ ⟨tr.map fun x => Value.int x.1 x.2.2⟩ fs).run P w =
        .ok ((tr.drop i).map (·.2.1) == (tr.drop i).map (·.2.2)) w
  | [], i, h, _ => by
    have : tr.drop i = [] := List.drop_eq_nil_of_le (by simp at h; omega)
    simp [Op.eqFields, this]
  | f :: fs, i, h, hf => by
    simp only [List.length_cons] at h
    have hi : i < tr.length := by omega
    have hd : tr.drop i = tr[i] :: tr.drop (i + 1) := List.drop_eq_getElem_cons hi
    have ih := run_eqFields_flat (P := P) w d tr fs (i + 1) (by omega) (fun j g hg => by
      obtain ⟨a, b⟩ := hf (j + 1) g (by simpa using hg)
      exact ⟨by omega, b⟩)
    obtain ⟨ho, hn, ⟨k0, he⟩, ha⟩ := hf 0 f rfl
    simp only [Nat.add_zero] at ho
    have p1 : (part f.type ⟨tr.map fun x => Value.int x.1 x.2.1⟩ f.offset).run P w = .ok (.int tr[i].1 tr[i].2.1) w := run_part1 ha (by simp [ho, hi])
    have p2 : (part f.type ⟨tr.map fun x => Value.int x.1 x.2.2⟩ f.offset).run P w = .ok (.int tr[i].1 tr[i].2.2) w := run_part1 ha (by simp [ho, hi])
    simp only [Op.eqFields, hn, ne_eq, not_false_eq_true, if_true, Sem.run_bind, p1, p2, Result.andThen_ok, run_equalIn_int _ _ _ _ _ _ _ he]
    have e1 : (tr.drop i).map (·.2.1) = tr[i].2.1 :: (tr.drop (i + 1)).map (·.2.1) := by rw [hd]; rfl
    have e2 : (tr.drop i).map (·.2.2) = tr[i].2.2 :: (tr.drop (i + 1)).map (·.2.2) := by rw [hd]; rfl
    rw [e1, e2]
    cases hc : tr[i].2.1 == tr[i].2.2
    · simp only [Bool.not_false, if_true, Sem.run_pure, List.cons_beq_cons, hc, Bool.false_and]
    · simp only [Bool.not_true, Bool.false_eq_true, if_false, ih, List.cons_beq_cons, hc, Bool.true_and]

theorem run_equal_flat {P : Program} (w : World) {t : TypeId} {n : Nat} (hf : flatT P t = some n) (tr : List (IntKind × Int × Int)) (hl : tr.length = n) :
    (Op.equal t (.agg ⟨tr.map fun x => Value.int x.1 x.2.1⟩) (.agg ⟨tr.map fun x => Value.int x.1 x.2.2⟩)).run P w = .ok (tr.map (·.2.1) == tr.map (·.2.2)) w := by
  unfold flatT at hf
  split at hf
  · rename_i n' e hu
    split at hf
    · rename_i k0 i he hi
      split at hf
      · rename_i hb ha
        cases hf
        have h1 : P.cellsOf e = 1 := by simp [Program.cellsOf, hi]; simpa using hb
        have := run_equalIn_array (P := P) w 9999 (t := t) ⟨tr.map fun x => Value.int x.1 x.2.1⟩ ⟨tr.map fun x => Value.int x.1 x.2.2⟩ hu hi
        unfold Op.equal Op.maxDepth
        rw [this, h1, List.range_eq_range']
        have := run_eqItems_flat w 9998 he ha tr n 0 (by omega)
        simpa using this
      · simp at hf
    · simp at hf
  · rename_i fs hu
    split at hf
    · rename_i hc
      cases hf
      simp only [Bool.and_eq_true, Bool.not_eq_true', List.all_eq_true] at hc
      obtain ⟨hp, hall⟩ := hc
      have hfo : P.fieldsOf t = fs := by simp [Program.fieldsOf, hu]
      have := run_equalIn_struct (P := P) w 9999 t ⟨tr.map fun x => Value.int x.1 x.2.1⟩ ⟨tr.map fun x => Value.int x.1 x.2.2⟩ (by rw [hfo]; exact hu) hp
      unfold Op.equal Op.maxDepth
      rw [this, hfo]
      have := run_eqFields_flat (P := P) w 9998 tr fs.toList 0 (by simp; omega) (fun j f hj => by
        have hm : (f, j) ∈ fs.toList.zipIdx := by
          rw [List.mem_zipIdx_iff_getElem?]; exact hj
        have := hall _ hm
        obtain ⟨⟨⟨h1, h2⟩, h3⟩, h4⟩ := this
        refine ⟨by simpa using h1, by simpa using h2, ?_, ?_⟩
        · split at h3
          · rename_i k0 hk; exact ⟨k0, hk⟩
          · simp at h3
        · split at h4
          · rename_i hk; exact hk
          · simp at h4)
      simpa using this
    · simp at hf
  · simp at hf

theorem eqs_bytes_ev {F : Fns} {ρ : Nat → Int} (as bs : List A) : (Ins.eqs true as bs).ev F ρ = b2i ((as.map fun a => UInt8.ofNat (a.ev ρ).toNat) == bs.map fun a => UInt8.ofNat (a.ev ρ).toNat) := rfl
theorem eqs_ints_ev {F : Fns} {ρ : Nat → Int} (as bs : List A) : (Ins.eqs false as bs).ev F ρ = b2i (as.map (A.ev ρ) == bs.map (A.ev ρ)) := rfl

/-- 'x op y', and the look at nil interfaces ahead of it -/
def binRun (o : BinOp) (t : TypeId) (xo yo : Operand) (v u : Value) : Sem Value := do eqGuard o t xo yo v u; Go.binOp o t v u

theorem eqGuard_plain {P : Program} {w : World} {o : BinOp} {t : TypeId} {xo yo : Operand} {v u : Value} (h : ∀ a b, ¬ (v = .agg a ∧ u = .agg b)) (h' : ¬ (v = .nilIface ∧ u = .nilIface)) :
    (eqGuard o t xo yo v u).run P w = .ok () w := by
  unfold eqGuard
  have key : ∀ (c : Bool) (s : Sem Unit), s.run P w = .ok () w → (if c = true then (pure () : Sem Unit) else s).run P w = .ok () w := by
    intro c s hs; cases c <;> simp [hs]
  apply key
  split
  · exact absurd ⟨rfl, rfl⟩ h'
  · exact absurd ⟨rfl, rfl⟩ (h _ _)
  · simp

theorem eqGuard_agg {P : Program} {w : World} {o : BinOp} {t : TypeId} {xo yo : Operand} {a b : Array Value} (h : P.eqGuardType P.depth t = false) :
    (eqGuard o t xo yo (.agg a) (.agg b)).run P w = .ok () w := by
  unfold eqGuard
  have key : ∀ (c : Bool) (s : Sem Unit), s.run P w = .ok () w → (if c = true then (pure () : Sem Unit) else s).run P w = .ok () w := by
    intro c s hs; cases c <;> simp [hs]
  apply key
  dsimp only
  generalize Op.eqGuardIn Op.maxDepth t (.agg a) (.agg b) = X
  have hp : ∀ w, (program : Sem Program).run P w = .ok P w := fun w => by simp [program, Sem.run]
  simp only [Sem.run_bind, hp, Result.andThen_ok, h, Bool.not_false, if_true, Sem.run_pure]

theorem eqBool_le (g : G) (neg : Bool) (a b : A) : g.le (eqBool g neg a b).2 := by
  unfold eqBool
  cases neg <;> exact G.le_trans (mkIte_le _ _ _ _) (G.le_trans (mkIte_le _ _ _ _) (mkIte_le _ _ _ _))

theorem eqBool_ev {F : Fns} {ρ : Nat → Int} {g : G} {neg : Bool} {a b : A} (hs : Sat F ρ (eqBool g neg a b).2.ssa) :
    ((eqBool g neg a b).1.ev ρ != 0) = (((a.ev ρ != 0) == (b.ev ρ != 0)) != neg) := by
  unfold eqBool at *
  cases neg
  · simp only [] at *
    have h2 := mkIte_ev (hs.mono (mkIte_le _ _ _ _))
    have h1 := mkIte_ev (hs.mono (G.le_trans (mkIte_le _ _ _ _) (mkIte_le _ _ _ _)))
    rw [mkIte_ev hs, h1, h2]
    simp only [A.ev_l]
    clear h1 h2 hs
    generalize A.ev ρ a = x
    generalize A.ev ρ b = y
    by_cases ha : x = 0 <;> by_cases hb : y = 0 <;> simp [ha, hb]
    all_goals (rw [show (x != 0) = true from by simpa using ha, show (y != 0) = true from by simpa using hb])
  · simp only [] at *
    have h2 := mkIte_ev (hs.mono (mkIte_le _ _ _ _))
    have h1 := mkIte_ev (hs.mono (G.le_trans (mkIte_le _ _ _ _) (mkIte_le _ _ _ _)))
    rw [mkIte_ev hs, h1, h2]
    simp only [A.ev_l]
    clear h1 h2 hs
    generalize A.ev ρ a = x
    generalize A.ev ρ b = y
    by_cases ha : x = 0 <;> by_cases hb : y = 0 <;> simp [ha, hb]
    all_goals (rw [show (x != 0) = true from by simpa using ha, show (y != 0) = true from by simpa using hb])

theorem eqList_le (g : G) (by_ neg : Bool) (as bs : List A) : g.le (eqList g by_ neg as bs).2 := by
  unfold eqList
  cases neg
  · exact G.le_push g _
  · exact G.le_trans (G.le_push g _) (flipB_le _ _)

theorem eqList_ev {F : Fns} {ρ : Nat → Int} {g : G} {by_ neg : Bool} {as bs : List A} {r : Bool} (hs : Sat F ρ (eqList g by_ neg as bs).2.ssa) (hr : (Ins.eqs by_ as bs).ev F ρ = b2i r) :
    ((eqList g by_ neg as bs).1.ev ρ != 0) = (r != neg) := by
  unfold eqList at *
  cases neg
  · simp only [] at *
    rw [push_ev hs, hr, b2i_ne]; simp
  · simp only [] at *
    rw [flipB_ev hs, push_ev (hs.mono (flipB_le _ _)), hr, b2i_ne]; simp

theorem binRun_of {P : Program} {w : World} {o : BinOp} {t : TypeId} {xo yo : Operand} {v u : Value} (h : (eqGuard o t xo yo v u).run P w = .ok () w) :
    (binRun o t xo yo v u).run P w = (Go.binOp o t v u).run P w := by
  unfold binRun
  rw [Sem.run_bind, h]; rfl

theorem okShift_sound {pr : Prs} {ρ : Nat → Int} {g g' : G} {b : A} (h : okShift g b = some g') (hh : Hold pr ρ g'.asm) : 0 ≤ b.ev ρ ∧ g.le g' := by
  cases b with
  | l n =>
    simp only [okShift] at h
    split at h
    · rename_i hn; cases h; exact ⟨hn, G.le_refl g⟩
    · simp at h
  | v x =>
    simp only [okShift, Option.some.injEq] at h
    subst h
    exact ⟨hh (.nn (.v x)) (by simp [G.ask]), G.le_ask g _⟩

theorem run_equalIn_ifn {P : Program} (w : World) (d : Nat) {t : TypeId} {ms : Array (String × TypeId)} {t' : TypeId} {x : Value} (ht : P.underlying t = some (.interface ms)) :
    (Op.equalIn (d + 1) t (.iface t' x) .nilIface).run P w = .ok false w := by
  simp [Op.equalIn, run_und ht]

theorem run_equalIn_nn {P : Program} (w : World) (d : Nat) {t : TypeId} {ms : Array (String × TypeId)} (ht : P.underlying t = some (.interface ms)) :
    (Op.equalIn (d + 1) t .nilIface .nilIface).run P w = .ok true w := by
  simp [Op.equalIn, run_und ht]

theorem stBin_sound {P : Program} {F : Fns} {pr : Prs} {E : Env} {σ : Plc} {w : World} {g g' : G} {o : BinOp} {t : TypeId} {x y s : S} {xo yo : Operand} {v u : Value} {yc : Bool}
    (h : stBin P g o t x y yc = some (s, g')) (hyc : yc = true → ∃ z, yo = .const z) (hs : Sat F E.ρ g'.ssa) (hh : Hold pr E.ρ g'.asm) (hx : x.Den E σ v) (hy : y.Den E σ u) :
    g.le g' ∧ ∃ r, (binRun o t xo yo v u).run P w = .ok r w ∧ s.Den E σ r := by
  unfold stBin at h
  split at h
  · -- integers
    rename_i k a k' b
    have hv : v = .int k (a.ev E.ρ) := hx
    have hu : u = .int k' (b.ev E.ρ) := hy
    subst hv; subst hu
    rw [binRun_of (eqGuard_plain (by simp) (by simp))]
    split at h
    · rename_i ho
      split at h
      · rename_i g1 hok
        first | simp only [outI, Option.some.injEq, Prod.mk.injEq] at h | simp only [outB, Option.some.injEq, Prod.mk.injEq] at h
        obtain ⟨rfl, rfl⟩ := h
        obtain ⟨hn, hle⟩ := okShift_sound hok (hh.mono (mk2_le g1 o k a b))
        refine ⟨G.le_trans hle (mk2_le g1 o k a b), _, ?_, rfl⟩
        rw [mk2_ev hs]
        have hlt : ¬ (b.ev E.ρ < 0) := by omega
        cases o <;> simp [isShift] at ho <;> simp [Go.binOp, Op.shift, hlt, op2, pure]
      · simp at h
    · rename_i ho
      split at h
      · simp at h
      · rename_i hk
        have := kb_eq hk
        subst this
        split at h
        · rename_i hd
          cases b with
          | v x => simp at h
          | l n =>
            simp only [] at h
            split at h
            · simp at h
            · rename_i hn
              first | simp only [outI, Option.some.injEq, Prod.mk.injEq] at h | simp only [outB, Option.some.injEq, Prod.mk.injEq] at h
              obtain ⟨rfl, rfl⟩ := h
              refine ⟨mk2_le g o k a (.l n), _, ?_, rfl⟩
              rw [mk2_ev hs]
              have hn0 : n ≠ 0 := by simpa using hn
              cases o <;> simp [isDiv] at hd <;> simp [Go.binOp, Op.intDiv, hn0, op2, A.ev, pure]
        · rename_i hd
          split at h
          · rename_i hc
            first | simp only [outI, Option.some.injEq, Prod.mk.injEq] at h | simp only [outB, Option.some.injEq, Prod.mk.injEq] at h
            obtain ⟨rfl, rfl⟩ := h
            refine ⟨mk2_le g o k a b, ?_⟩
            obtain ⟨bb, he, hr⟩ := op2_cmp_b2i (o := o) (k := k) (x := a.ev E.ρ) (y := b.ev E.ρ) hc
            refine ⟨.bool bb, ?_, ?_⟩
            · have := hr P w
              cases o <;> simp [isCmp] at hc <;> simpa [Go.binOp] using this
            · show Value.bool bb = .bool (_ != 0)
              rw [mk2_ev hs, he, b2i_ne]
          · rename_i hc
            first | simp only [outI, Option.some.injEq, Prod.mk.injEq] at h | simp only [outB, Option.some.injEq, Prod.mk.injEq] at h
            obtain ⟨rfl, rfl⟩ := h
            refine ⟨mk2_le g o k a b, _, ?_, rfl⟩
            rw [mk2_ev hs]
            cases o <;> simp [isShift, isDiv, isCmp] at ho hd hc <;> simp [Go.binOp, Op.intArith, Op.intBits, op2, bv, pure]
  · -- bools
    rename_i a b
    have hv : v = .bool (a.ev E.ρ != 0) := hx
    have hu : u = .bool (b.ev E.ρ != 0) := hy
    subst hv; subst hu
    rw [binRun_of (eqGuard_plain (by simp) (by simp))]
    split at h
    · rename_i neg ht ho
      simp only [outB, Option.some.injEq, Prod.mk.injEq] at h
      obtain ⟨rfl, rfl⟩ := h
      refine ⟨eqBool_le g neg a b, .bool (((a.ev E.ρ != 0) == (b.ev E.ρ != 0)) != neg), ?_, ?_⟩
      · have hr : ∀ x y, (Op.equal t (.bool x) (.bool y)).run P w = .ok (x == y) w := fun x y => run_equalIn_bool' w 9999 t x y ht
        cases o <;> simp [isEq] at ho <;> subst ho <;> simp [Go.binOp, hr]
      · show Value.bool _ = .bool (_ != 0)
        rw [eqBool_ev hs]
    · simp at h
  · -- strings
    rename_i as bs
    have hv : v = .string ⟨(as.map fun a => UInt8.ofNat (a.ev E.ρ).toNat).toArray⟩ := hx
    have hu : u = .string ⟨(bs.map fun a => UInt8.ofNat (a.ev E.ρ).toNat).toArray⟩ := hy
    subst hv; subst hu
    rw [binRun_of (eqGuard_plain (by simp) (by simp))]
    split at h
    · rename_i neg ho
      simp only [outB, Option.some.injEq, Prod.mk.injEq] at h
      obtain ⟨rfl, rfl⟩ := h
      refine ⟨eqList_le g true neg as bs, .bool (((as.map fun a => UInt8.ofNat (a.ev E.ρ).toNat) == bs.map fun a => UInt8.ofNat (a.ev E.ρ).toNat) != neg), ?_, ?_⟩
      · cases o <;> simp [isEq] at ho <;> subst ho <;> simp [Go.binOp, Op.stringOp, pure]
      · show Value.bool _ = .bool (_ != 0)
        rw [eqList_ev hs (eqs_bytes_ev as bs)]
    · simp at h
  · -- rows
    rename_i cs ds
    obtain ⟨vs, rfl, hvs⟩ := hx
    obtain ⟨us, rfl, hus⟩ := hy
    split at h
    · rename_i as bs n neg hat hfl heg ho
      split at h
      · rename_i hn
        simp only [outB, Option.some.injEq, Prod.mk.injEq] at h
        obtain ⟨rfl, rfl⟩ := h
        obtain ⟨tr, hl, rfl, rfl, e1, e2⟩ := atoms2_den hat hvs hus
        rw [binRun_of (eqGuard_agg heg)]
        refine ⟨eqList_le g false neg as bs, .bool ((tr.map (·.2.1) == tr.map (·.2.2)) != neg), ?_, ?_⟩
        · have hr := run_equal_flat w hfl tr (by rw [hl]; simpa using hn)
          cases o <;> simp [isEq] at ho <;> subst ho <;> simp [Go.binOp, hr]
        · show Value.bool _ = .bool (_ != 0)
          rw [eqList_ev hs (eqs_ints_ev as bs), e1, e2]
      · simp at h
    · simp at h
  · -- an interface that holds a pointer, and nil
    rename_i t' r off
    obtain ⟨p, hp, rfl⟩ := hx
    have hu : u = .nilIface := hy
    subst hu
    rw [binRun_of (eqGuard_plain (by simp) (by simp))]
    split at h
    · rename_i ms neg ht ho
      simp only [Option.some.injEq, Prod.mk.injEq] at h
      obtain ⟨rfl, rfl⟩ := h
      refine ⟨G.le_refl g, .bool neg, ?_, ?_⟩
      · have hr : (Op.equal t (.iface t' (.pointer (some (adr p off)))) .nilIface).run P w = .ok false w := by
          exact run_equalIn_ifn w 9999 ht
        cases o <;> simp [isEq] at ho <;> subst ho <;> simp [Go.binOp, hr]
      · show Value.bool _ = .bool (_ != 0)
        rw [A.ev_l, b2i_ne]
    · simp at h
  · have hv : v = .nilIface := hx
    have hu : u = .nilIface := hy
    subst hv; subst hu
    split at h
    · rename_i ms neg ht ho
      obtain ⟨z, hz⟩ := hyc rfl
      simp only [Option.some.injEq, Prod.mk.injEq] at h
      obtain ⟨rfl, rfl⟩ := h
      have hg : (eqGuard o t xo yo .nilIface .nilIface).run P w = .ok () w := by
        subst hz
        cases o <;> simp [isEq] at ho <;> simp [eqGuard, pure]
      rw [binRun_of hg]
      refine ⟨G.le_refl g, .bool (!neg), ?_, ?_⟩
      · have hr : (Op.equal t .nilIface .nilIface).run P w = .ok true w := by
          exact run_equalIn_nn w 9999 ht
        cases o <;> simp [isEq] at ho <;> subst ho <;> simp [Go.binOp, hr]
      · show Value.bool _ = .bool (_ != 0)
        rw [A.ev_l, b2i_ne]
    · simp at h
  · simp at h

end Go.X

namespace Go.X

/-- the cells of the regions of ws -/
def Wr (σ : Plc) (m : Mem) (ws : List Nat) (b o : Nat) : Prop := ∃ r p cs, r ∈ ws ∧ σ r = some p ∧ m[r]? = some cs ∧ b = p.1 ∧ p.2 ≤ o ∧ o < p.2 + cs.length

def Free (σ : Plc) (m : Mem) : Eff → Prop
  | .quiet news => ∀ j, j < news.length → σ (m.length + j) = none
  | .write _ _ => ∀ i, m.length ≤ i → σ i = none

structure QPost (base : Nat) (E : Env) (σ : Plc) (n : Nat) (news : Mem) (w : World) (s : S) (v : Value) (w' : World) (σ' : Plc) : Prop where
  same : ∀ i, (i < n ∨ n + news.length ≤ i) → σ' i = σ i
  le : σ.le σ'
  den : s.Den E σ' v
  news : News base E σ' n news w w'
  ev : Ev (fun _ _ => False) w w'

structure WPost (base : Nat) (E : Env) (σ : Plc) (m m' : Mem) (ws : List Nat) (w : World) (s : S) (v : Value) (w' : World) (σ' : Plc) : Prop where
  same : ∀ i, i < m.length → σ' i = σ i
  le : σ.le σ'
  free : ∀ i, m'.length ≤ i → σ' i = none
  fresh : ∀ i p, m.length ≤ i → σ' i = some p → w.heap.size ≤ p.1
  grow : m.length ≤ m'.length
  dom : ∀ i, m.length ≤ i → i < m'.length → ∃ p, σ' i = some p
  lens : ∀ (i : Nat) (cs cs' : List L), m[i]? = some cs → m'[i]? = some cs' → cs'.length = cs.length
  den : s.Den E σ' v
  rep : MRep base E σ' m' w'
  ev : Ev (Wr σ m ws) w w'

def Post (base : Nat) (E : Env) (σ : Plc) (m : Mem) (w : World) (r : R) (v : Value) (w' : World) : Prop :=
  match r.eff with
  | .quiet news => ∃ σ' : Plc, QPost base E σ m.length news w r.s v w' σ'
  | .write m' ws => ∃ σ' : Plc, WPost base E σ m m' ws w r.s v w' σ'

theorem Post.val {base : Nat} {E : Env} {σ : Plc} {m : Mem} {w : World} {s : S} {g : G} {v : Value} (h : s.Den E σ v) : Post base E σ m w (R.val s g) v w :=
  ⟨σ, fun _ _ => rfl, Plc.le_refl σ, h, News.nil _ _ _ _ _ _, Ev.refl _ _⟩

def Plc.set (σ : Plc) (n : Nat) (p : Nat × Nat) : Plc := fun i => if i = n then some p else σ i

theorem Plc.le_set {σ : Plc} {n : Nat} {p : Nat × Nat} (h : σ n = none) : σ.le (σ.set n p) := by
  intro r q hr
  unfold Plc.set
  by_cases e : r = n
  · subst e; rw [h] at hr; cases hr
  · rw [if_neg e]; exact hr

/-- a new block -/
theorem Post.alloc {base : Nat} {E : Env} {σ : Plc} {m : Mem} {w : World} {s : S} {g : G} {v : Value} {cs : List L} {vs : List Value} {T : TypeId}
    (hf : Free σ m (.quiet [cs])) (ha : All2 (L.Den E σ) cs vs) (h : s.Den E (σ.set m.length (w.heap.size, 0)) v) :
    Post base E σ m w ⟨s, .quiet [cs], g⟩ v (w.alloc (.cells ⟨vs⟩ T)) := by
  have h0 : σ m.length = none := hf 0 (by simp)
  refine ⟨σ.set m.length (w.heap.size, 0), ?_, Plc.le_set h0, h, ?_, Ev.alloc w _ _⟩
  · intro i hi
    unfold Plc.set
    rw [if_neg (by simp at hi; omega)]
  · refine ⟨?_, ?_⟩
    · intro j c hj
      cases j with
      | succ j => simp at hj
      | zero =>
        simp at hj; subst hj
        refine ⟨(w.heap.size, 0), by simp [Plc.set], Nat.le_refl _, by simp, ?_⟩
        intro i c hc
        obtain ⟨u, hu, hd⟩ := ha.get i c hc
        refine ⟨u, ?_, hd.mono (Plc.le_set h0), ?_⟩
        · show (w.alloc (.cells ⟨vs⟩ T)).cell? ⟨w.heap.size, 0 + i, none⟩ = some u
          rw [World.cell?_alloc_new]; simpa using hu
        · exact World.frozen?_alloc_new _ _ _ _
    · intro i j p q cs1 cs2 hi hj hne
      obtain ⟨h1, _⟩ := List.getElem?_eq_some_iff.1 hi
      obtain ⟨h2, _⟩ := List.getElem?_eq_some_iff.1 hj
      simp at h1 h2; omega

theorem Plc.set_self (σ : Plc) (n : Nat) (p : Nat × Nat) : σ.set n p n = some p := by simp [Plc.set]

/-- what an operation comes to -/
def Comes1 (P : Program) (base : Nat) (E : Env) (σ : Plc) (m : Mem) (w : World) (r : R) (s : Sem Next) : Prop :=
  ∃ nx v w', s.run P w = .ok nx w' ∧ (nx = .value v ∨ (nx = .skip ∧ v = undef)) ∧ Post base E σ m w r v w'

theorem Comes1.value {P : Program} {base : Nat} {E : Env} {σ : Plc} {m : Mem} {w : World} {r : R} {s : Sem Value} {v : Value} {w' : World}
    (h : s.run P w = .ok v w') (hp : Post base E σ m w r v w') : Comes1 P base E σ m w r (do pure (.value (← s))) :=
  ⟨.value v, v, w', by rw [Sem.run_bind, h]; simp, .inl rfl, hp⟩

theorem Comes1.unit {P : Program} {base : Nat} {E : Env} {σ : Plc} {m : Mem} {w : World} {r : R} {s : Sem Unit} {w' : World}
    (h : s.run P w = .ok () w') (hp : Post base E σ m w r undef w') : Comes1 P base E σ m w r (do s; pure .skip) :=
  ⟨.skip, undef, w', by rw [Sem.run_bind, h]; simp, .inr ⟨rfl, rfl⟩, hp⟩

theorem sure_ptr (P : Program) (w : World) (a : Addr) : (Instr.sureAddr (.pointer (some a))).run P w = .ok a w := by simp [Instr.sureAddr, pure]

/-! ### load -/

def selA (cs : List L) (k : IntKind) (off stride : Nat) : Nat → Nat → Option (List A)
  | 0, _ => some []
  | n + 1, j =>
    match cs[off + stride * j]? with
    | some (.int k' a) =>
      match kb k k', selA cs k off stride n (j + 1) with
      | true, some r => some (a :: r)
      | _, _ => none
    | _ => none

theorem selA_get {cs : List L} {k : IntKind} {off stride : Nat} : ∀ {n j : Nat} {as : List A}, selA cs k off stride n j = some as → ∀ i, i < n →
    ∃ a, as[i]? = some a ∧ cs[off + stride * (j + i)]? = some (.int k a)
  | 0, j, as, h, i, hi => by omega
  | n + 1, j, as, h, i, hi => by
    simp only [selA] at h
    split at h
    · rename_i k' a hc
      split at h
      · rename_i r hk hr
        simp at h; subst h
        have := kb_eq hk
        subst this
        cases i with
        | zero => exact ⟨a, rfl, hc⟩
        | succ i =>
          obtain ⟨b, hb, hcb⟩ := selA_get hr i (by omega)
          exact ⟨b, by simpa using hb, by rw [show j + (i + 1) = j + 1 + i from by omega]; exact hcb⟩
      · simp at h
    · simp at h

/-- one cell at a place that is reckoned -/
def sel1 (g : G) (cs : List L) (off stride : Nat) (i : A) (len : Nat) : Option (L × G) :=
  match cs[off]? with
  | some (.int k _) =>
    match selA cs k off stride len 0 with
    | some as => some (.int k (g.push (.sel as i)).1, (g.push (.sel as i)).2)
    | none => none
  | _ => none

def selN (g : G) (cs : List L) (off stride : Nat) (i : A) (len : Nat) : Nat → Option (List L × G)
  | 0 => some ([], g)
  | n + 1 =>
    match sel1 g cs off stride i len with
    | some (c, g) =>
      match selN g cs (off + 1) stride i len n with
      | some (r, g) => some (c :: r, g)
      | none => none
    | none => none

theorem sel1_le {g g' : G} {cs : List L} {off stride : Nat} {i : A} {len : Nat} {c : L} (h : sel1 g cs off stride i len = some (c, g')) : g.le g' := by
  unfold sel1 at h
  split at h
  · split at h
    · simp at h; obtain ⟨_, rfl⟩ := h; exact G.le_push _ _
    · simp at h
  · simp at h

theorem selN_le : ∀ {n : Nat} {g g' : G} {cs : List L} {off stride : Nat} {i : A} {len : Nat} {c : List L}, selN g cs off stride i len n = some (c, g') → g.le g'
  | 0, g, g', cs, off, stride, i, len, c, h => by simp [selN] at h; obtain ⟨_, rfl⟩ := h; exact G.le_refl _
  | n + 1, g, g', cs, off, stride, i, len, c, h => by
    simp only [selN] at h
    split at h
    · rename_i c1 g1 h1
      split at h
      · rename_i r g2 h2
        simp at h; obtain ⟨_, rfl⟩ := h
        exact G.le_trans (sel1_le h1) (selN_le h2)
      · simp at h
    · simp at h

theorem sel1_den {F : Fns} {E : Env} {σ : Plc} {w : World} {p : Nat × Nat} {g g' : G} {cs : List L} {off stride : Nat} {i : A} {len : Nat} {c : L}
    (h : sel1 g cs off stride i len = some (c, g')) (hs : Sat F E.ρ g'.ssa) (hc : CellsAt E σ w p cs) (h0 : 0 ≤ i.ev E.ρ) (h1 : i.ev E.ρ < len) :
    ∃ v, w.cell? (adr p (off + stride * (i.ev E.ρ).toNat)) = some v ∧ c.Den E σ v := by
  unfold sel1 at h
  split at h
  · rename_i k a0 hk
    split at h
    · rename_i as has
      simp at h
      obtain ⟨rfl, rfl⟩ := h
      obtain ⟨a, ha, hca⟩ := selA_get has (i.ev E.ρ).toNat (by omega)
      rw [Nat.zero_add] at hca
      obtain ⟨v, hv, hd, _⟩ := hc _ _ hca
      refine ⟨v, hv, ?_⟩
      show v = .int k _
      rw [push_ev hs]
      simp only [L.Den] at hd
      rw [hd]
      simp [Ins.ev, List.getD_eq_getElem?_getD, ha]
    · simp at h
  · simp at h

theorem selN_den {F : Fns} {E : Env} {σ : Plc} {w : World} {p : Nat × Nat} {cs : List L} {stride : Nat} {i : A} {len : Nat} (hc : CellsAt E σ w p cs) (h0 : 0 ≤ i.ev E.ρ) (h1 : i.ev E.ρ < len) :
    ∀ {n : Nat} {g g' : G} {off : Nat} {c : List L}, selN g cs off stride i len n = some (c, g') → Sat F E.ρ g'.ssa →
      ∃ vs, vs.length = n ∧ All2 (L.Den E σ) c vs ∧ ∀ j v, vs[j]? = some v → w.cell? (adr p (off + stride * (i.ev E.ρ).toNat + j)) = some v
  | 0, g, g', off, c, h, hs => by simp [selN] at h; obtain ⟨rfl, rfl⟩ := h; exact ⟨[], rfl, .nil, by simp⟩
  | n + 1, g, g', off, c, h, hs => by
    simp only [selN] at h
    split at h
    · rename_i c1 g1 e1
      split at h
      · rename_i r g2 e2
        simp at h; obtain ⟨rfl, rfl⟩ := h
        obtain ⟨v, hv, hd⟩ := sel1_den e1 (hs.mono (selN_le e2)) hc h0 h1
        obtain ⟨vs, hl, ha, hvs⟩ := selN_den hc h0 h1 e2 hs
        refine ⟨v :: vs, by simp [hl], .cons hd ha, ?_⟩
        intro j u hj
        cases j with
        | zero => simp at hj; subst hj; exact hv
        | succ j =>
          have := hvs j u (by simpa using hj)
          rw [show off + stride * (i.ev E.ρ).toNat + (j + 1) = off + 1 + stride * (i.ev E.ρ).toNat + j from by omega]
          exact this
      · simp at h
    · simp at h

def stLoad (P : Program) (m : Mem) (g : G) (t : TypeId) (x : S) : Option R :=
  match x with
  | .one (.lf (.ptr r off)) =>
    match m[r]?, agT P t, szT P t with
    | some cs, some true, some n => match Nat.ble (off + n) cs.length with
      | true => some (.val (.one (.agg ((cs.drop off).take n))) g)
      | false => none
    | some cs, some false, _ => match cs[off]? with
      | some c => some (.val (.one (.lf c)) g)
      | none => none
    | _, _, _ => none
  | .one (.lf (.px r off stride i len)) =>
    match m[r]?, agT P t, szT P t with
    | some cs, some true, some n => match selN g cs off stride i len n with
      | some (c, g) => some (.val (.one (.agg c)) g)
      | none => none
    | some cs, some false, _ => match sel1 g cs off stride i len with
      | some (c, g) => some (.val (.one (.lf c)) g)
      | none => none
    | _, _, _ => none
  | _ => none

theorem stLoad_sound {P : Program} {F : Fns} {base : Nat} {E : Env} {σ : Plc} {m : Mem} {w : World} {g : G} {t : TypeId} {x : S} {r : R} {a : Value}
    (h : stLoad P m g t x = some r) (hs : Sat F E.ρ r.g.ssa) (hx : x.Den E σ a) (hm : MRep base E σ m w) :
    g.le r.g ∧ Comes1 P base E σ m w r (do pure (.value (← Instr.loadAt t a))) := by
  unfold stLoad at h
  split at h
  · rename_i r' off
    obtain ⟨p, hp, rfl⟩ := hx
    split at h
    · rename_i cs n hcs hag hsz
      split at h
      · rename_i hle
        simp at h; subst h
        refine ⟨G.le_refl g, ?_⟩
        obtain ⟨vs, hl, ha, hv, _⟩ := hm.seg hp hcs off n (Nat.le_of_ble_eq_true hle)
        refine Comes1.value (v := .agg ⟨vs⟩) (w' := w) ?_ (Post.val ⟨vs, rfl, ha⟩)
        have hr := run_loadCells P w p off vs hv
        rw [hl] at hr
        simp [Instr.loadAt, sure_ptr, loadVar, run_ag hag, run_sz hsz, hr]
      · simp at h
    · rename_i cs hcs hag
      split at h
      · rename_i c hc
        simp at h; subst h
        refine ⟨G.le_refl g, ?_⟩
        obtain ⟨v, hv, hd, _⟩ := hm.rep _ _ _ hp hcs _ _ hc
        refine Comes1.value (v := v) (w' := w) ?_ (Post.val hd)
        simp [Instr.loadAt, sure_ptr, loadVar, run_ag hag, load, Sem.run, hv]
      · simp at h
    · simp at h
  · rename_i r' off stride i len
    obtain ⟨p, hp, h0, h1, rfl⟩ := hx
    split at h
    · rename_i cs n hcs hag hsz
      split at h
      · rename_i c g' hsel
        simp at h; subst h
        refine ⟨selN_le hsel, ?_⟩
        obtain ⟨vs, hl, ha, hv⟩ := selN_den (hm.rep _ _ _ hp hcs) h0 h1 hsel hs
        refine Comes1.value (v := .agg ⟨vs⟩) (w' := w) ?_ (Post.val ⟨vs, rfl, ha⟩)
        have hr := run_loadCells P w p _ vs hv
        rw [hl] at hr
        simp [Instr.loadAt, sure_ptr, loadVar, run_ag hag, run_sz hsz, hr]
      · simp at h
    · rename_i cs hcs hag
      split at h
      · rename_i c g' hsel
        simp at h; subst h
        refine ⟨sel1_le hsel, ?_⟩
        obtain ⟨v, hv, hd⟩ := sel1_den hsel hs (hm.rep _ _ _ hp hcs) h0 h1
        refine Comes1.value (v := v) (w' := w) ?_ (Post.val hd)
        simp [Instr.loadAt, sure_ptr, loadVar, run_ag hag, load, Sem.run, hv]
      · simp at h
    · simp at h
  · simp at h

/-! ### store -/

def stStore (P : Program) (m : Mem) (g : G) (t : TypeId) (x y : S) : Option R :=
  match x with
  | .one (.lf (.ptr r off)) =>
    match m[r]?, szT P t, y.cells with
    | some cs, some n, some new => match Nat.beq new.length n && Nat.ble (off + n) cs.length && new.all L.plain with
      | true => some ⟨.tup [], .write (m.set r (spl cs off new)) [r], { g with wr := r :: g.wr }⟩
      | false => none
    | _, _, _ => none
  | _ => none

theorem lt_of_get {α : Type} {l : List α} {i : Nat} {a : α} (h : l[i]? = some a) : i < l.length := by
  rcases Nat.lt_or_ge i l.length with h' | h'
  · exact h'
  · rw [List.getElem?_eq_none h'] at h; cases h

theorem WPost.store {base : Nat} {E : Env} {σ : Plc} {m : Mem} {w w' : World} {r : Nat} {p : Nat × Nat} {cs new : List L} {off : Nat} {vs : List Value} {s : S} {v : Value}
    (hm : MRep base E σ m w) (hf : ∀ i, m.length ≤ i → σ i = none) (hp : σ r = some p) (hcs : m[r]? = some cs) (hn : off + new.length ≤ cs.length) (ha : All2 (L.Den E σ) new vs)
    (he : Ev (fun b o => b = p.1 ∧ p.2 + off ≤ o ∧ o < p.2 + (off + vs.length)) w w') (hv : ∀ j v, vs[j]? = some v → w'.cell? (adr p (off + j)) = some v) (hd : s.Den E σ v) :
    WPost base E σ m (m.set r (spl cs off new)) [r] w s v w' σ := by
  refine ⟨fun _ _ => rfl, Plc.le_refl σ, by simpa using hf, ?_, by simp, fun i h1 h2 => by simp at h2; omega, ?_, hd, hm.store hp hcs hn ha he hv, ?_⟩
  · intro i q hi hq; rw [hf i hi] at hq; cases hq
  · intro i c c' hc hc'
    by_cases e : r = i
    · subst e
      rw [List.getElem?_set_self (lt_of_get hcs)] at hc'
      cases hc'; rw [hcs] at hc; cases hc
      exact spl_length hn
    · rw [List.getElem?_set_ne e, hc] at hc'; cases hc'; rfl
  · have hl := ha.length_eq
    exact Ev.trans (Ev.refl (fun _ _ => False) w) he (fun _ _ _ h => h.elim) (fun b o _ ⟨h1, h2, h3⟩ => ⟨r, p, cs, by simp, hp, hcs, h1, by omega, by omega⟩)

theorem stStore_sound {P : Program} {base : Nat} {E : Env} {σ : Plc} {m : Mem} {w : World} {g : G} {t : TypeId} {x y : S} {r : R} {a u : Value}
    (h : stStore P m g t x y = some r) (hx : x.Den E σ a) (hy : y.Den E σ u) (hm : MRep base E σ m w) (hf : Free σ m r.eff) :
    g.le r.g ∧ Comes1 P base E σ m w r (do Instr.storeAt t a u; pure .skip) := by
  unfold stStore at h
  split at h
  · rename_i r' off
    obtain ⟨p, hp, rfl⟩ := hx
    split at h
    · rename_i cs n new hcs hsz hnew
      split at h
      · rename_i hok
        simp only [Bool.and_eq_true] at hok
        obtain ⟨⟨h1, h2⟩, h3⟩ := hok
        have h1 := Nat.eq_of_beq_eq_true h1
        have h2 := Nat.le_of_ble_eq_true h2
        simp at h; subst h
        refine ⟨⟨fun _ h => h, fun _ h => h, fun _ h => List.mem_cons_of_mem _ h⟩, ?_⟩
        obtain ⟨vs, hvs, ha, hst⟩ := S.cells_den hnew h3 hy
        have hl := ha.length_eq
        have hseg := hm.rep _ _ _ hp hcs
        obtain ⟨w', hr, hev, hcell, _⟩ := run_storeCells P p off vs 0 w hst (fun j hj => by
          obtain ⟨c, hc⟩ : ∃ c, cs[off + j]? = some c := ⟨cs[off + j]'(by omega), by simp⟩
          obtain ⟨v0, q1, _, q3⟩ := hseg _ _ hc
          exact ⟨⟨v0, q1⟩, q3⟩)
        refine Comes1.unit (w' := w') ?_ ⟨σ, WPost.store hm hf hp hcs (by omega) ha hev hcell (show S.Den E σ (.tup []) undef from ⟨[], rfl, .nil⟩)⟩
        have hsz2 : u.cells.size = n := by rw [hvs]; simp; omega
        simp only [Instr.storeAt, Sem.run_bind, sure_ptr, Result.andThen_ok, storeVar, run_sz hsz, hsz2, ne_eq, not_true_eq_false, if_false]
        rw [hvs]; simpa using hr
      · simp at h
    · simp at h
  · simp at h

/-! ### new memory -/

def stAlloc (P : Program) (m : Mem) (g : G) (t : TypeId) : Option R :=
  match zvT P t with
  | some z => some ⟨.one (.lf (.ptr m.length 0)), .quiet [z.cells.toList.map lfV], g⟩
  | none => none

theorem run_newRow (P : Program) (w : World) (T : TypeId) (vs : Array Value) : (newRow T vs).run P w = .ok ⟨w.heap.size, 0, none⟩ (w.alloc (.cells vs T)) := by
  simp [newRow, newObj, Sem.run]

theorem stAlloc_sound {P : Program} {base : Nat} {E : Env} {σ : Plc} {m : Mem} {w : World} {g : G} {t : TypeId} {r : R}
    (h : stAlloc P m g t = some r) (hf : Free σ m r.eff) :
    g.le r.g ∧ Comes1 P base E σ m w r (do pure (.value (← Instr.alloc t true (.tuple #[])))) := by
  unfold stAlloc at h
  split at h
  · rename_i z hz
    simp at h; subst h
    refine ⟨G.le_refl g, Comes1.value (v := .pointer (some (adr (w.heap.size, 0) 0))) (w' := w.alloc (.cells ⟨z.cells.toList⟩ t)) ?_ (Post.alloc hf (lfVs_den E σ _) ⟨_, Plc.set_self _ _ _, rfl⟩)⟩
    simp [Instr.alloc, run_zv hz, newVar, run_newRow, adr]
  · simp at h

def stBox (m : Mem) (g : G) (x : S) : Option R :=
  match x.cells with
  | some cs => match cs.all L.plain with
    | true => some ⟨.one (.lf (.ptr m.length 0)), .quiet [cs], g⟩
    | false => none
  | none => none

theorem stBox_sound {P : Program} {base : Nat} {E : Env} {σ : Plc} {m : Mem} {w : World} {g : G} {t : TypeId} {x : S} {u : Value} {r : R}
    (h : stBox m g x = some r) (hx : x.Den E σ u) (hf : Free σ m r.eff) : g.le r.g ∧ Comes1 P base E σ m w r (do pure (.value (← Instr.box t u))) := by
  unfold stBox at h
  split at h
  · rename_i cs hcs
    split at h
    · rename_i hp
      simp at h; subst h
      obtain ⟨vs, hvs, ha, _⟩ := S.cells_den hcs hp hx
      refine ⟨G.le_refl g, Comes1.value (v := .pointer (some (adr (w.heap.size, 0) 0))) (w' := w.alloc (.cells ⟨vs⟩ t)) ?_ (Post.alloc hf ha ⟨_, Plc.set_self _ _ _, rfl⟩)⟩
      simp [Instr.box, newVar, run_newRow, hvs, adr]
    · simp at h
  · simp at h

end Go.X

namespace Go.X

/-! ### building aggregates -/

theorem foldset (off : Nat) : ∀ (vs : List Value) (k : Nat) (cells : Array Value), off + k + vs.length ≤ cells.size →
    ((vs.zipIdx k).foldl (fun (cs : Array Value) (x : Value × Nat) => cs.setIfInBounds (off + x.2) x.1) cells).toList =
      cells.toList.take (off + k) ++ vs ++ cells.toList.drop (off + k + vs.length)
  | [], k, cells, _ => by simp
  | v :: vs, k, cells, h => by
    simp only [List.length_cons] at h
    simp only [List.zipIdx_cons, List.foldl_cons]
    rw [foldset off vs (k + 1) _ (by simp; omega)]
    have hlt : off + k < cells.toList.length := by simp; omega
    simp only [Array.toList_setIfInBounds]
    rw [show off + (k + 1) = off + k + 1 from by omega, List.take_set, List.drop_set_of_lt (by omega)]
    rw [List.take_add_one, List.getElem?_eq_getElem hlt]
    have h1 : (List.take (off + k) cells.toList).length = off + k := by rw [List.length_take]; omega
    have h2 : (List.take (off + k) cells.toList ++ [cells.toList[off + k]]).set (off + k) v = List.take (off + k) cells.toList ++ [v] := by
      rw [List.set_append]
      rw [if_neg (by omega), h1, Nat.sub_self]; rfl
    simp only [Option.toList_some, h2, List.length_cons, List.append_assoc, List.cons_append, List.nil_append]
    rw [show off + k + (vs.length + 1) = off + k + 1 + vs.length from by omega]

def fillL (place : Nat → Option (Nat × Nat)) (cells : List L) : List (Nat × S) → Option (List L)
  | [] => some cells
  | (i, x) :: rest =>
    match place i, x.cells with
    | some (off, size), some new => match Nat.beq new.length size && Nat.ble (off + size) cells.length && new.all L.plain with
      | true => fillL place (spl cells off new) rest
      | false => none
    | _, _ => none

theorem All2.spl {E : Env} {σ : Plc} {cs new : List L} {us vs : List Value} (h : All2 (L.Den E σ) cs us) (h' : All2 (L.Den E σ) new vs) (off : Nat) :
    All2 (L.Den E σ) (X.spl cs off new) (us.take off ++ vs ++ us.drop (off + vs.length)) := by
  unfold X.spl
  rw [h'.length_eq]
  exact ((h.take off).append h').append (h.drop _)

theorem fillL_den {E : Env} {σ : Plc} {place : Nat → Option (Nat × Nat)} : ∀ {parts : List (Nat × S)} {vals : List (Nat × Value)} {cells out : List L} {us : Array Value},
    fillL place cells parts = some out → All2 (fun (x : Nat × S) (y : Nat × Value) => x.1 = y.1 ∧ x.2.Den E σ y.2) parts vals → All2 (L.Den E σ) cells us.toList →
    ∃ os, Instr.fill place us vals = some os ∧ All2 (L.Den E σ) out os.toList
  | [], vals, cells, out, us, h, hp, hc => by
    simp [fillL] at h; subst h; cases hp
    exact ⟨us, by simp [Instr.fill], hc⟩
  | (i, x) :: rest, vals, cells, out, us, h, hp, hc => by
    cases hp with
    | @cons _ y _ ys h1 h2 =>
      obtain ⟨j, v⟩ := y
      obtain ⟨rfl, hv⟩ := h1
      simp only [fillL] at h
      split at h
      · rename_i off size new hpl hnew
        split at h
        · rename_i hok
          simp only [Bool.and_eq_true] at hok
          obtain ⟨⟨e1, e2⟩, e3⟩ := hok
          have e1 := Nat.eq_of_beq_eq_true e1
          have e2 := Nat.le_of_ble_eq_true e2
          obtain ⟨vs, hvs, ha, _⟩ := S.cells_den hnew e3 hv
          have hl := ha.length_eq
          have hcl := hc.length_eq
          simp only [Array.length_toList] at hcl
          have hfs := foldset off vs 0 us (by omega)
          have hfold : ((⟨vs⟩ : Array Value).zipIdx.foldl (fun cs (x : Value × Nat) => cs.setIfInBounds (off + x.2) x.1) us).toList = us.toList.take off ++ vs ++ us.toList.drop (off + vs.length) := by
            rw [← Array.foldl_toList]
            simpa using hfs
          have hc' := All2.spl hc ha off
          rw [← hfold] at hc'
          obtain ⟨os, ho, hd⟩ := fillL_den h h2 hc'
          refine ⟨os, ?_, hd⟩
          simp only [Instr.fill, hpl, hvs]
          rw [if_neg (by simp; omega)]
          exact ho
        · simp at h
      · simp at h

def placesT (P : Program) : List Field → Option (List (Nat × Nat))
  | [] => some []
  | f :: fs => match szT P f.type, placesT P fs with
    | some n, some r => some ((f.offset, n) :: r)
    | _, _ => none

theorem run_places {P : Program} (w : World) : ∀ {fs : List Field} {r : List (Nat × Nat)}, placesT P fs = some r →
    (fs.mapM fun f => (do pure (f.offset, ← sizeOf f.type) : Sem (Nat × Nat))).run P w = .ok r w
  | [], r, h => by simp [placesT] at h; subst h; simp
  | f :: fs, r, h => by
    simp only [placesT] at h
    split at h
    · rename_i n r' hn hr
      simp at h; subst h
      rw [List.mapM_cons]
      simp only [Sem.run_bind, run_sz hn, Result.andThen_ok, Sem.run_pure]
      rw [run_places w hr]
      simp
    · simp at h

def stBuild (P : Program) (g : G) (t : TypeId) (parts : List (Nat × S)) : Option R :=
  match zvT P t, P.underlying t with
  | some z, some (.struct fs) =>
    match placesT P fs.toList with
    | some pl => match fillL (fun i => pl[i]?) (z.cells.toList.map lfV) parts with
      | some out => some (.val (.one (.agg out)) g)
      | none => none
    | none => none
  | some z, some (.array _ e) =>
    match szT P e with
    | some n => match fillL (fun i => some (i * n, n)) (z.cells.toList.map lfV) parts with
      | some out => some (.val (.one (.agg out)) g)
      | none => none
    | none => none
  | _, _ => none

theorem stBuild_sound {P : Program} {base : Nat} {E : Env} {σ : Plc} {m : Mem} {w : World} {g : G} {t : TypeId} {parts : List (Nat × S)} {vals : Array (Nat × Value)} {r : R}
    (h : stBuild P g t parts = some r) (hp : All2 (fun (x : Nat × S) (y : Nat × Value) => x.1 = y.1 ∧ x.2.Den E σ y.2) parts vals.toList) :
    g.le r.g ∧ Comes1 P base E σ m w r (do pure (.value (← Instr.build t vals))) := by
  unfold stBuild at h
  split at h
  · rename_i z fs hz hu
    split at h
    · rename_i pl hpl
      split at h
      · rename_i out hf
        simp at h; subst h
        obtain ⟨os, ho, hd⟩ := fillL_den hf hp (lfVs_den E σ z.cells.toList)
        refine ⟨G.le_refl g, Comes1.value (v := .agg os) (w' := w) ?_ (Post.val ⟨os.toList, rfl, hd⟩)⟩
        unfold Instr.build
        simp only [Sem.run_bind, run_zv hz, Result.andThen_ok, run_und hu, Array.mapM_eq_mapM_toList, Sem.run_map, run_places w hpl]
        have : (fun (i : Nat) => (⟨pl⟩ : Array (Nat × Nat))[i]?) = fun (i : Nat) => pl[i]? := by funext i; simp
        simp only [this, ho, Sem.run_pure]
      · simp at h
    · simp at h
  · rename_i z n' e hz hu
    split at h
    · rename_i n hn
      split at h
      · rename_i out hf
        simp at h; subst h
        obtain ⟨os, ho, hd⟩ := fillL_den hf hp (lfVs_den E σ z.cells.toList)
        refine ⟨G.le_refl g, Comes1.value (v := .agg os) (w' := w) ?_ (Post.val ⟨os.toList, rfl, hd⟩)⟩
        unfold Instr.build
        simp only [Sem.run_bind, run_zv hz, Result.andThen_ok, run_und hu, run_sz hn, ho, Sem.run_pure]
      · simp at h
    · simp at h
  · simp at h

def zrow (z : List L) (n : Nat) : List L := (List.range n).map fun i => z.getD (i % z.length) .any

theorem zrow_den {E : Env} {σ : Plc} {z : Array Value} (hz : z.size ≠ 0) (n : Nat) :
    All2 (L.Den E σ) (zrow (z.toList.map lfV) n) ((Array.range n).map fun i => z[i % z.size]!).toList := by
  refine All2.of_get (by simp [zrow]) ?_
  intro i a b ha hb
  have hi : i < n := by simpa [zrow] using lt_of_get ha
  simp only [zrow, List.getElem?_map, List.getElem?_range hi, Option.map_some, Option.some.injEq] at ha
  simp only [Array.toList_map, List.getElem?_map, Array.toList_range, List.getElem?_range hi, Option.map_some, Option.some.injEq] at hb
  subst ha; subst hb
  have hlt : i % z.size < z.size := Nat.mod_lt _ (by omega)
  simp only [List.length_map, Array.length_toList, List.getD_eq_getElem?_getD, List.getElem?_map, Array.getElem?_toList]
  simp only [hlt, getElem?_pos, Option.map_some, Option.getD_some, getElem!_pos]
  exact lfV_den E σ _

def stBuildSlice (P : Program) (m : Mem) (g : G) (t : TypeId) (len : Nat) (parts : List (Nat × S)) : Option R :=
  match P.underlying t with
  | some (.slice e) =>
    match szT P e, zvT P e with
    | some n, some z => match Nat.ble (len * n) 16777216 && !Nat.beq (len * n) 0 && !Nat.beq z.cells.size 0 with
      | true => match fillL (fun i => some (i * n, n)) (zrow (z.cells.toList.map lfV) (len * n)) parts with
        | some out => some ⟨.one (.lf (.slc m.length 0 len (some len))), .quiet [out], g⟩
        | none => none
      | false => none
    | _, _ => none
  | _ => none

theorem stBuildSlice_sound {P : Program} {base : Nat} {E : Env} {σ : Plc} {m : Mem} {w : World} {g : G} {t : TypeId} {len : Nat} {parts : List (Nat × S)} {vals : Array (Nat × Value)} {r : R}
    (h : stBuildSlice P m g t len parts = some r) (hp : All2 (fun (x : Nat × S) (y : Nat × Value) => x.1 = y.1 ∧ x.2.Den E σ y.2) parts vals.toList) (hf : Free σ m r.eff) :
    g.le r.g ∧ Comes1 P base E σ m w r (do pure (.value (← Instr.buildSlice t len vals))) := by
  unfold stBuildSlice at h
  split at h
  · rename_i e hu
    split at h
    · rename_i n z hn hz
      split at h
      · rename_i hok
        simp only [Bool.and_eq_true, Bool.not_eq_true'] at hok
        obtain ⟨⟨e1, e2⟩, e3⟩ := hok
        have e1 := Nat.le_of_ble_eq_true e1
        have e2 : len * n ≠ 0 := by intro e; rw [e] at e2; simp at e2
        have e3 : z.cells.size ≠ 0 := by intro e; rw [e] at e3; simp at e3
        split at h
        · rename_i out hfl
          simp at h; subst h
          obtain ⟨os, ho, hd⟩ := fillL_den hfl hp (zrow_den e3 (len * n))
          refine ⟨G.le_refl g, Comes1.value (v := .slice (some (adr (w.heap.size, 0) 0)) len len) (w' := w.alloc (.cells ⟨os.toList⟩ e)) ?_
            (Post.alloc hf hd ⟨_, len, Plc.set_self _ _ _, Nat.le_refl _, by intro c hc; cases hc; rfl, rfl⟩)⟩
          unfold Instr.buildSlice
          simp only [Sem.run_bind, run_und hu, Result.andThen_ok, run_sz hn, Sem.run_ite, if_neg (show ¬ len * n > 2 ^ 24 from by omega), if_neg e2, run_zv hz, Sem.run_pure, ho, run_newRow]
          rfl
        · simp at h
      · simp at h
    · simp at h
  · simp at h

end Go.X

namespace Go.X

/-! ### addresses -/

def litOf : S → Option Int
  | .one (.lf (.int _ (.l n))) => some n
  | _ => none

def natOf (x : S) : Option Nat :=
  match litOf x with
  | some (.ofNat n) => some n
  | _ => none

theorem litOf_den {E : Env} {σ : Plc} {x : S} {n : Int} {v : Value} (h : litOf x = some n) (hd : x.Den E σ v) : ∃ k, v = .int k n := by
  unfold litOf at h
  split at h
  · rename_i k n'
    simp at h; subst h
    exact ⟨k, hd⟩
  · simp at h

theorem natOf_den {E : Env} {σ : Plc} {x : S} {n : Nat} {v : Value} (h : natOf x = some n) (hd : x.Den E σ v) : ∃ k, v = .int k n := by
  unfold natOf at h
  split at h
  · rename_i n' hn
    simp at h; subst h
    exact litOf_den hn hd
  · simp at h

def stFieldAddr (P : Program) (g : G) (t : TypeId) (x : S) (f : Nat) : Option R :=
  match P.underlying t with
  | some (.struct fs) =>
    match fs[f]? with
    | some fd =>
      match szT P fd.type, x with
      | some (_ + 1), .one (.lf (.ptr r off)) => some (.val (.one (.lf (.ptr r (off + fd.offset)))) g)
      | some (_ + 1), .one (.lf (.px r off s i n)) => some (.val (.one (.lf (.px r (off + fd.offset) s i n))) g)
      | _, _ => none
    | none => none
  | _ => none

theorem stFieldAddr_sound {P : Program} {base : Nat} {E : Env} {σ : Plc} {m : Mem} {w : World} {g : G} {t : TypeId} {x : S} {f : Nat} {r : R} {a : Value}
    (h : stFieldAddr P g t x f = some r) (hx : x.Den E σ a) : g.le r.g ∧ Comes1 P base E σ m w r (do pure (.value (← Instr.fieldAt t a f))) := by
  unfold stFieldAddr at h
  split at h
  · rename_i fs hu
    split at h
    · rename_i fd hfd
      split at h
      · rename_i n r' off hn
        simp at h; subst h
        obtain ⟨p, hp, rfl⟩ := hx
        refine ⟨G.le_refl g, Comes1.value (v := .pointer (some (adr p (off + fd.offset)))) (w' := w) ?_ (Post.val ⟨p, hp, rfl⟩)⟩
        simp [Instr.fieldAt, run_und hu, hfd, sure_ptr, fieldPlace, run_sz hn, adr_add]
      · rename_i n r' off s i l hn
        simp at h; subst h
        obtain ⟨p, hp, h0, h1, rfl⟩ := hx
        refine ⟨G.le_refl g, Comes1.value (v := .pointer (some (adr p (off + fd.offset + s * (i.ev E.ρ).toNat)))) (w' := w) ?_ (Post.val ⟨p, hp, h0, h1, rfl⟩)⟩
        have e : off + s * (i.ev E.ρ).toNat + fd.offset = off + fd.offset + s * (i.ev E.ρ).toNat := by omega
        simp [Instr.fieldAt, run_und hu, hfd, sure_ptr, fieldPlace, run_sz hn, adr_add, e]
      · simp at h
    · simp at h
  · simp at h

/-- a number out of the oracle: so many times no, then yes -/
def takeK : List Bool → Nat → Option (Nat × List Bool)
  | [], _ => none
  | true :: r, k => some (k, r)
  | false :: r, k => takeK r (k + 1)

/-- the index is said to be k -/
def G.fix (g : G) (x : Nat) (k : Nat) (rest : List Bool) : G :=
  { ssa := (g.n, .op2 .eql .i64 (.v x) (.l k)) :: g.ssa, n := g.n + 1, asm := .cond (.v g.n) true :: g.asm, orc := rest, wr := g.wr }

theorem G.le_fix (g : G) (x k : Nat) (rest : List Bool) : g.le (g.fix x k rest) := ⟨fun _ h => List.mem_cons_of_mem _ h, fun _ h => List.mem_cons_of_mem _ h, fun _ h => h⟩

theorem fix_ev {F : Fns} {pr : Prs} {ρ : Nat → Int} {g : G} {x k : Nat} {rest : List Bool} (hs : Sat F ρ (g.fix x k rest).ssa) (hh : Hold pr ρ (g.fix x k rest).asm) : ρ x = (k : Int) := by
  have h1 : ρ g.n = b2i (ρ x == (k : Int)) := hs (g.n, .op2 .eql .i64 (.v x) (.l k)) (by simp [G.fix])
  have h2 : (ρ g.n != 0) = true := hh (.cond (.v g.n) true) (by simp [G.fix])
  by_cases e : ρ x = (k : Int)
  · exact e
  · rw [h1, beq_false_of_ne e] at h2
    cases h2

def stIdx (g : G) (r off size len : Nat) (i : A) : Option R :=
  match i with
  | .l (.ofNat n) => match Nat.blt n len with
    | true => some (.val (.one (.lf (.ptr r (off + n * size)))) g)
    | false => none
  | .l _ => none
  | .v x => match g.orc with
    | [] => some (.val (.one (.lf (.px r off size (.v x) len))) (g.ask (.rng (.v x) len)))
    | b :: o => match takeK (b :: o) 0 with
      | none => none
      | some (k, rest) => match Nat.blt k len with
        | true => some (.val (.one (.lf (.ptr r (off + k * size)))) (g.fix x k rest))
        | false => none

def stIndexAddr (P : Program) (g : G) (t : TypeId) (x i : S) : Option R :=
  match P.underlying t, x, i with
  | some (.array len e), .one (.lf (.ptr r off)), .one (.lf (.int _ a)) =>
    match szT P e with
    | some n => stIdx g r off n len a
    | none => none
  | some (.slice e), .one (.lf (.slc r off len _)), .one (.lf (.int _ a)) =>
    match szT P e with
    | some n => stIdx g r off n len a
    | none => none
  | _, _, _ => none

theorem stIdx_sound {P : Program} {F : Fns} {pr : Prs} {base : Nat} {E : Env} {σ : Plc} {m : Mem} {w : World} {g : G} {r off size len : Nat} {i : A} {R' : R} {p : Nat × Nat} {s : Sem Value}
    (h : stIdx g r off size len i = some R') (hsat : Sat F E.ρ R'.g.ssa) (hh : Hold pr E.ρ R'.g.asm) (hp : σ r = some p)
    (hs : 0 ≤ i.ev E.ρ → i.ev E.ρ < len → s.run P w = .ok (.pointer (some (adr p (off + (i.ev E.ρ).toNat * size)))) w) :
    g.le R'.g ∧ Comes1 P base E σ m w R' (do pure (.value (← s))) := by
  unfold stIdx at h
  split at h
  · rename_i n
    split at h
    · rename_i hlt
      have hlt : n < len := Nat.le_of_ble_eq_true hlt
      simp at h; subst h
      exact ⟨G.le_refl g, Comes1.value (hs (by simp [A.ev]) (by simp only [A.ev]; exact Int.ofNat_lt.2 hlt)) (Post.val ⟨p, hp, by simp [A.ev]⟩)⟩
    · simp at h
  · simp at h
  · rename_i x
    split at h
    · simp at h; subst h
      have hr : (Asm.rng (.v x) len).holds pr E.ρ := hh _ (by simp [R.val, G.ask])
      exact ⟨G.le_ask g _, Comes1.value (hs hr.1 hr.2) (Post.val ⟨p, hp, hr.1, hr.2, by rw [Nat.mul_comm]⟩)⟩
    · split at h
      · cases h
      · rename_i k rest _
        split at h
        · rename_i hlt
          have hlt : k < len := Nat.le_of_ble_eq_true hlt
          cases h
          have e : E.ρ x = (k : Int) := fix_ev hsat hh
          have e1 : (A.v x).ev E.ρ = (k : Int) := e
          rw [e1] at hs
          exact ⟨G.le_fix g _ _ _, Comes1.value (hs (by omega) (Int.ofNat_lt.2 hlt)) (Post.val ⟨p, hp, by simp⟩)⟩
        · cases h

theorem stIndexAddr_sound {P : Program} {F : Fns} {pr : Prs} {base : Nat} {E : Env} {σ : Plc} {m : Mem} {w : World} {g : G} {t : TypeId} {x i : S} {r : R} {a b : Value}
    (h : stIndexAddr P g t x i = some r) (hsat : Sat F E.ρ r.g.ssa) (hh : Hold pr E.ρ r.g.asm) (hx : x.Den E σ a) (hi : i.Den E σ b) :
    g.le r.g ∧ Comes1 P base E σ m w r (do pure (.value (← Instr.indexAt t a b))) := by
  unfold stIndexAddr at h
  split at h
  · rename_i len e r' off k ai hu
    split at h
    · rename_i n hn
      obtain ⟨p, hp, rfl⟩ := hx
      have hb : b = .int k (ai.ev E.ρ) := hi
      subst hb
      refine stIdx_sound h hsat hh hp fun h0 h1 => ?_
      simp [Instr.indexAt, asIntOf, run_und hu, sure_ptr, h0, h1, run_sz hn, adr_add, pure]
    · simp at h
  · rename_i e r' off len c k ai hu
    split at h
    · rename_i n hn
      obtain ⟨p, cc, hp, hl, _, rfl⟩ := hx
      have hb : b = .int k (ai.ev E.ρ) := hi
      subst hb
      refine stIdx_sound h hsat hh hp fun h0 h1 => ?_
      simp [Instr.indexAt, asIntOf, run_und hu, h0, h1, run_sz hn, adr_add, pure]
    · simp at h
  · simp at h

def stNil (g : G) (x : S) : Option R :=
  match x with
  | .one (.lf (.ptr r off)) => some (.val (.one (.lf (.ptr r off))) g)
  | .one (.lf (.px r off s i n)) => some (.val (.one (.lf (.px r off s i n))) g)
  | _ => none

def stExtract (g : G) (x : S) (i : Nat) : Option R :=
  match x with
  | .tup xs => match xs[i]? with
    | some y => some (.val (.one y) g)
    | none => none
  | _ => none

theorem stExtract_sound {P : Program} {base : Nat} {E : Env} {σ : Plc} {m : Mem} {w : World} {g : G} {x : S} {i : Nat} {r : R} {a : Value}
    (h : stExtract g x i = some r) (hx : x.Den E σ a) : g.le r.g ∧ Comes1 P base E σ m w r (do pure (.value (← Instr.extract a i))) := by
  unfold stExtract at h
  split at h
  · rename_i xs
    split at h
    · rename_i y hy
      simp at h; subst h
      obtain ⟨vs, rfl, ha⟩ := hx
      obtain ⟨v, hv, hd⟩ := ha.get _ _ hy
      refine ⟨G.le_refl g, Comes1.value (v := v) (w' := w) ?_ (Post.val hd)⟩
      simp [Instr.extract, hv, pure]
    · simp at h
  · simp at h

/-! ### slices -/

def bnd (x : Option S) (d : Nat) : Option Nat :=
  match x with
  | none => some d
  | some s => natOf s

def stSlice (P : Program) (g : G) (t : TypeId) (x : S) (lo hi mx : Option S) : Option R :=
  match mx, P.underlying t, x with
  | none, some (.array n e), .one (.lf (.ptr r off)) =>
    match szT P e, bnd lo 0, bnd hi n with
    | some s, some l, some h => match Nat.ble h n && Nat.ble l h && (Nat.beq l 0 || Nat.blt l n) with
      | true => some (.val (.one (.lf (.slc r (off + l * s) (h - l) (some (n - l))))) g)
      | false => none
    | _, _, _ => none
  | none, some (.slice e), .one (.lf (.slc r off len cap)) =>
    match szT P e, bnd lo 0, bnd hi len with
    | some s, some l, some h => match Nat.ble h len && Nat.ble l h && (Nat.beq l 0 || Nat.blt l len) with
      | true => some (.val (.one (.lf (.slc r (off + l * s) (h - l) (cap.map (· - l))))) g)
      | false => none
    | _, _, _ => none
  | _, _, _ => none

theorem run_bnd {P : Program} {w : World} {x : Int} {k : IntKind} {n y : Nat} {c : BoundsCode} (hx : x = n) (hy : n ≤ y) : (Instr.sliceBound (.int k x) y c).run P w = .ok n w := by
  subst hx
  simp [Instr.sliceBound, asIntOf, hy, pure]

def ODen (E : Env) (σ : Plc) (x : Option S) (v : Option Value) : Prop := match x, v with | none, none => True | some s, some v => s.Den E σ v | _, _ => False

theorem run_bounds {P : Program} {w : World} {isS : Bool} {len cap l h : Nat} {E : Env} {σ : Plc} {lo hi : Option S} {lv hv : Option Value} (hl : bnd lo 0 = some l) (hh : bnd hi len = some h)
    (dl : ODen E σ lo lv) (dh : ODen E σ hi hv)
    (h1 : h ≤ len) (h2 : l ≤ h) (h3 : len ≤ cap) : (Instr.sliceBounds isS len cap lv hv none).run P w = .ok (l, h, cap) w := by
  unfold Instr.sliceBounds
  cases hi with
  | none => cases hv with
    | some v => exact dh.elim
    | none =>
      simp [bnd] at hh; subst hh
      cases lo with
      | none => cases lv with
        | some v => exact dl.elim
        | none => simp [bnd] at hl; subst hl; simp
      | some s => cases lv with
        | none => exact dl.elim
        | some v =>
          obtain ⟨k, rfl⟩ := natOf_den hl dl
          simp only [Sem.run_bind, Sem.run_pure, Result.andThen_ok]
          rw [run_bnd rfl (by omega)]
          simp
  | some s' => cases hv with
    | none => exact dh.elim
    | some v' =>
      obtain ⟨k', rfl⟩ := natOf_den hh dh
      cases lo with
      | none => cases lv with
        | some v => exact dl.elim
        | none =>
          simp [bnd] at hl; subst hl
          simp only [Sem.run_bind, Sem.run_pure, Result.andThen_ok]
          rw [run_bnd rfl (by omega)]
          simp
      | some s => cases lv with
        | none => exact dl.elim
        | some v =>
          obtain ⟨k, rfl⟩ := natOf_den hl dl
          simp only [Sem.run_bind, Sem.run_pure, Result.andThen_ok]
          rw [run_bnd rfl (by omega)]
          simp only [Result.andThen_ok]
          rw [run_bnd rfl (by omega)]
          simp

theorem stSlice_sound {P : Program} {base : Nat} {E : Env} {σ : Plc} {m : Mem} {w : World} {g : G} {t : TypeId} {x : S} {lo hi mx : Option S} {lv hv mv : Option Value} {r : R} {a : Value}
    (h : stSlice P g t x lo hi mx = some r) (hx : x.Den E σ a) (dl : ODen E σ lo lv) (dh : ODen E σ hi hv) (dm : ODen E σ mx mv) :
    g.le r.g ∧ Comes1 P base E σ m w r (do pure (.value (← Instr.sliceAt t a lv hv mv))) := by
  have em : mx = none → mv = none := by
    intro e; subst e; cases mv with
    | none => rfl
    | some _ => exact dm.elim
  unfold stSlice at h
  split at h
  · rename_i n e r' off hu
    split at h
    · rename_i s l hh hs hl hhi
      split at h
      · rename_i hok
        simp only [Bool.and_eq_true, Bool.or_eq_true] at hok
        obtain ⟨⟨h1, h2⟩, h3⟩ := hok
        have h1 := Nat.le_of_ble_eq_true h1
        have h2 := Nat.le_of_ble_eq_true h2
        have h3 : l = 0 ∨ l < n := h3.imp Nat.eq_of_beq_eq_true (fun h => Nat.le_of_ble_eq_true h)
        simp at h; subst h
        obtain ⟨p, hp, rfl⟩ := hx
        rw [em rfl]
        refine ⟨G.le_refl g, Comes1.value (v := .slice (some (adr p (off + l * s))) (hh - l) (n - l)) (w' := w) ?_ (Post.val ⟨p, n - l, hp, by omega, by intro c hc; cases hc; rfl, rfl⟩)⟩
        unfold Instr.sliceAt
        simp only [Sem.run_bind, run_und hu, Result.andThen_ok, sure_ptr, run_bounds hl hhi dl dh h1 h2 (Nat.le_refl _), run_sz hs, Sem.run_pure, adr_add]
        by_cases e0 : n = l
        · have : l = 0 := by omega
          rw [if_pos e0, this]; simp
        · rw [if_neg e0]
      · simp at h
    · simp at h
  · rename_i e r' off len cap hu
    split at h
    · rename_i s l hh hs hl hhi
      split at h
      · rename_i hok
        simp only [Bool.and_eq_true, Bool.or_eq_true] at hok
        obtain ⟨⟨h1, h2⟩, h3⟩ := hok
        have h1 := Nat.le_of_ble_eq_true h1
        have h2 := Nat.le_of_ble_eq_true h2
        have h3 : l = 0 ∨ l < len := h3.imp Nat.eq_of_beq_eq_true (fun h => Nat.le_of_ble_eq_true h)
        simp at h; subst h
        obtain ⟨p, c, hp, hlc, hcap, rfl⟩ := hx
        rw [em rfl]
        refine ⟨G.le_refl g, Comes1.value (v := .slice (some (adr p (off + l * s))) (hh - l) (c - l)) (w' := w) ?_ (Post.val ⟨p, c - l, hp, by omega, ?_, rfl⟩)⟩
        · unfold Instr.sliceAt
          simp only [Sem.run_bind, run_und hu, Result.andThen_ok, Instr.slice, run_bounds hl hhi dl dh h1 h2 hlc, run_sz hs, Sem.run_pure, Option.map_some, adr_add]
          by_cases e0 : c = l
          · have : l = 0 := by omega
            rw [if_pos e0, this]; simp
          · rw [if_neg e0]
        · intro c' hc'
          cases cap with
          | none => simp at hc'
          | some c0 =>
            simp at hc'
            rw [hcap c0 rfl, hc']
      · simp at h
    · simp at h
  · simp at h

def stMakeSlice (P : Program) (m : Mem) (g : G) (t : TypeId) (l c : S) : Option R :=
  match P.underlying t, natOf l, natOf c with
  | some (.slice e), some n, some n' =>
    match szT P e, zvT P e, P.info? e with
    | some s, some z, some i =>
      match Nat.beq n n' && Nat.ble n 16777216 && Nat.ble i.bytes 1048576 && !Nat.beq (n * s) 0 && !Nat.beq z.cells.size 0 with
      | true => some ⟨.one (.lf (.slc m.length 0 n (some n))), .quiet [zrow (z.cells.toList.map lfV) (n * s)], g⟩
      | false => none
    | _, _, _ => none
  | _, _, _ => none

theorem wrap_i64 {n : Int} (h0 : 0 ≤ n) (h1 : n < 2 ^ 63) : IntKind.i64.wrap n = n := by
  unfold IntKind.wrap
  simp only [IntKind.bits, IntKind.signed, Bool.true_and]
  split
  · rename_i hc
    have := of_decide_eq_true hc
    omega
  · omega

theorem stMakeSlice_sound {P : Program} {base : Nat} {E : Env} {σ : Plc} {m : Mem} {w : World} {g : G} {t : TypeId} {l c : S} {r : R} {lv cv : Value}
    (h : stMakeSlice P m g t l c = some r) (hl : l.Den E σ lv) (hc : c.Den E σ cv) (hf : Free σ m r.eff) :
    g.le r.g ∧ Comes1 P base E σ m w r (do pure (.value (← Instr.makeSlice t lv cv))) := by
  unfold stMakeSlice at h
  split at h
  · rename_i e n n' hu hn hn'
    split at h
    · rename_i s z i hs hz hi
      split at h
      · rename_i hok
        simp only [Bool.and_eq_true, Bool.not_eq_true'] at hok
        obtain ⟨⟨⟨⟨e1, e2⟩, e3⟩, e4⟩, e5⟩ := hok
        have e1 := Nat.eq_of_beq_eq_true e1
        subst e1
        have e2 := Nat.le_of_ble_eq_true e2
        have e3 := Nat.le_of_ble_eq_true e3
        have e4 : n * s ≠ 0 := by intro e; rw [e] at e4; simp at e4
        have e5 : z.cells.size ≠ 0 := by intro e; rw [e] at e5; simp at e5
        simp at h; subst h
        obtain ⟨k, rfl⟩ := natOf_den hn hl
        obtain ⟨k', rfl⟩ := natOf_den hn' hc
        have hw : IntKind.i64.wrap (n : Int) = n := wrap_i64 (by omega) (by omega)
        have hb : ¬ ((i.bytes : Int) * n > 2 ^ 48) := by
          have : i.bytes * n ≤ 1048576 * 16777216 := Nat.mul_le_mul e3 e2
          have : ((i.bytes * n : Nat) : Int) ≤ (1048576 * 16777216 : Nat) := Int.ofNat_le.2 this
          rw [Int.natCast_mul] at this
          omega
        have hask : ∀ b w, (askRoom b).run P w = .ok () w := by
          intro b w
          unfold askRoom
          split <;> simp [mark, Sem.run, pure]
        have hn0 : ¬ ((n : Int) < 0) := by omega
        have hb' : ¬ (281474976710656 < (i.bytes : Int) * n) := hb
        have hfin : (Instr.makeSlice t (.int k n) (.int k' n)).run P w = .ok (.slice (some (adr (w.heap.size, 0) 0)) n n) (w.alloc (.cells ((Array.range (n * s)).map fun i => z.cells[i % z.cells.size]!) e)) := by
          unfold Instr.makeSlice
          simp only [Sem.run_bind, run_und hu, Result.andThen_ok, asInt, asIntOf, Sem.run_pure, run_info hi, hw]
          simp [hask, run_sz hs, e4, run_zv hz, run_newRow, adr]
          intro hcon
          clear hw
          omega
        exact ⟨G.le_refl g, Comes1.value hfin (Post.alloc (vs := ((Array.range (n * s)).map fun i => z.cells[i % z.cells.size]!).toList) hf (zrow_den e5 _) ⟨_, n, Plc.set_self _ _ _, Nat.le_refl _, by intro c hc; cases hc; rfl, rfl⟩)⟩
      · simp at h
    · simp at h
  · simp at h

end Go.X

namespace Go.X

/-! ### conversions, one-place operations, choices -/

def bytesA : List L → Option (List A)
  | [] => some []
  | .int .u8 a :: r => (bytesA r).map (a :: ·)
  | _ :: _ => none

theorem bytesA_den {E : Env} {σ : Plc} : ∀ {cs : List L} {as : List A} {vs : List Value}, bytesA cs = some as → All2 (L.Den E σ) cs vs →
    vs = (as.map (A.ev E.ρ)).map (Value.int .u8)
  | [], as, vs, h, hd => by simp [bytesA] at h; subst h; cases hd; rfl
  | c :: cs, as, vs, h, hd => by
    cases hd with
    | cons h1 h2 =>
      cases c with
      | int k a =>
        cases k <;> simp [bytesA] at h
        obtain ⟨as', h3, rfl⟩ := h
        have := bytesA_den h3 h2
        subst this
        simp only [L.Den] at h1
        simp [h1]
      | _ => simp [bytesA] at h

def stConvert (P : Program) (m : Mem) (g : G) (src dst : TypeId) (x : S) : Option R :=
  match x, P.underlying src, P.underlying dst with
  | .one (.lf (.int _ (.l n))), some _, some (.int k) => some (.val (.one (.lf (.int k (.l (k.wrap n))))) g)
  | .one (.lf (.int _ (.v x))), some _, some (.int k) => some (.val (.one (.lf (.int k (g.push (.conv k (.v x))).1))) (g.push (.conv k (.v x))).2)
  | .one (.lf (.slc r off len _)), some (.slice e), some .string =>
    match P.underlying e, m[r]? with
    | some (.int .u8), some cs => match Nat.ble (off + len) cs.length, bytesA ((cs.drop off).take len) with
      | true, some as => some (.val (.one (.lf (.str as))) g)
      | _, _ => none
    | _, _ => none
  | _, _, _ => none

theorem run_convert_int {P : Program} {w : World} {src dst : TypeId} {d : TypeDesc} {k k0 : IntKind} {n : Int} (hs : P.underlying src = some d) (hd : P.underlying dst = some (.int k)) :
    (convert src dst (.int k0 n)).run P w = .ok (.int k (k.wrap n)) w := by
  unfold convert
  simp only [Sem.run_bind, run_und hs, run_und hd, Result.andThen_ok]
  simp [Conv.intToInt, pure]

theorem stConvert_sound {P : Program} {F : Fns} {base : Nat} {E : Env} {σ : Plc} {m : Mem} {w : World} {g : G} {src dst : TypeId} {x : S} {r : R} {a : Value}
    (h : stConvert P m g src dst x = some r) (hsat : Sat F E.ρ r.g.ssa) (hx : x.Den E σ a) (hm : MRep base E σ m w) :
    g.le r.g ∧ Comes1 P base E σ m w r (do pure (.value (← convert src dst a))) := by
  unfold stConvert at h
  split at h
  · rename_i k0 n d k hs hd
    simp at h; subst h
    have ha : a = .int k0 n := hx
    subst ha
    exact ⟨G.le_refl g, Comes1.value (run_convert_int hs hd) (Post.val rfl)⟩
  · rename_i k0 n d k hs hd
    simp at h; subst h
    have ha : a = .int k0 (E.ρ n) := hx
    subst ha
    refine ⟨G.le_push g _, Comes1.value (run_convert_int hs hd) (Post.val ?_)⟩
    show Value.int k _ = .int k _
    rw [push_ev hsat]; rfl
  · rename_i r' off len c e hs hd
    obtain ⟨p, cc, hp, hl, _, rfl⟩ := hx
    split at h
    · rename_i cs he hcs
      split at h
      · rename_i as hle has
        simp at h; subst h
        obtain ⟨vs, hlen, hden, hcell, _⟩ := hm.seg hp hcs off len (Nat.le_of_ble_eq_true hle)
        have hvs := bytesA_den has hden
        refine ⟨G.le_refl g, Comes1.value (v := .string ⟨(as.map fun a => UInt8.ofNat (A.ev E.ρ a).toNat).toArray⟩) (w' := w) ?_ (Post.val (show S.Den E σ (.one (.lf (.str as))) (.string ⟨(as.map fun a => UInt8.ofNat (A.ev E.ρ a).toNat).toArray⟩) from rfl))⟩
        rw [run_convert_bytes_string w src dst e _ _ _ hs he hd]
        have hr := run_loadCells P w p off vs hcell
        rw [hlen, hvs] at hr
        rw [run_bytesToString w _ len cc (as.map (A.ev E.ρ)) hr, foldl_push_bytes]
        simp
      · simp at h
    · simp at h
  · simp at h

def maxLit (k : IntKind) : Int := if k.signed then -1 else k.max

def stUn (g : G) (o : UnOp) (x : S) : Option R :=
  match o, x with
  | .neg, .one (.lf (.int k a)) => some (.val (.one (.lf (.int k (mk2 g .sub k (.l 0) a).1))) (mk2 g .sub k (.l 0) a).2)
  | .xor, .one (.lf (.int k a)) => some (.val (.one (.lf (.int k (mk2 g .xor k (.l (maxLit k)) a).1))) (mk2 g .xor k (.l (maxLit k)) a).2)
  | .not, .one (.lf (.bool a)) => some (.val (.one (.lf (.bool (flipB g a).1))) (flipB g a).2)
  | _, _ => none

theorem stUn_sound {P : Program} {F : Fns} {base : Nat} {E : Env} {σ : Plc} {m : Mem} {w : World} {g : G} {o : UnOp} {x : S} {r : R} {a : Value}
    (h : stUn g o x = some r) (hsat : Sat F E.ρ r.g.ssa) (hx : x.Den E σ a) : g.le r.g ∧ Comes1 P base E σ m w r (do pure (.value (← Op.unary o a))) := by
  unfold stUn at h
  split at h
  · rename_i k b
    simp at h; subst h
    have ha : a = .int k (b.ev E.ρ) := hx
    subst ha
    refine ⟨mk2_le _ _ _ _ _, Comes1.value (v := .int k (op2 .sub k 0 (b.ev E.ρ))) (w' := w) ?_ (Post.val ?_)⟩
    · simp [Op.unary, Op.intArith, op2, pure]
    · show Value.int k _ = .int k _
      rw [mk2_ev hsat]; rfl
  · rename_i k b
    simp at h; subst h
    have ha : a = .int k (b.ev E.ρ) := hx
    subst ha
    refine ⟨mk2_le _ _ _ _ _, Comes1.value (v := .int k (op2 .xor k (maxLit k) (b.ev E.ρ))) (w' := w) ?_ (Post.val ?_)⟩
    · simp [Op.unary, Op.intBits, op2, bv, maxLit, pure]
    · show Value.int k _ = .int k _
      rw [mk2_ev hsat]; rfl
  · rename_i b
    simp at h; subst h
    have ha : a = .bool (b.ev E.ρ != 0) := hx
    subst ha
    refine ⟨flipB_le _ _, Comes1.value (v := .bool !(b.ev E.ρ != 0)) (w' := w) ?_ (Post.val ?_)⟩
    · simp [Op.unary, pure]
    · show Value.bool _ = .bool _
      rw [flipB_ev hsat]
  · simp at h

def stPick (g : G) (c a b : S) : Option R :=
  match c with
  | .one (.lf (.bool (.l n))) => some (.val (if n = 0 then b else a) g)
  | .one (.lf (.bool (.v x))) =>
    match a, b with
    | .one (.lf (.bool y)), .one (.lf (.bool z)) => some (.val (.one (.lf (.bool (g.push (.ite (.v x) y z)).1))) (g.push (.ite (.v x) y z)).2)
    | .one (.lf (.int k y)), .one (.lf (.int k' z)) => match kb k k' with
      | true => some (.val (.one (.lf (.int k (g.push (.ite (.v x) y z)).1))) (g.push (.ite (.v x) y z)).2)
      | false => none
    | _, _ => none
  | _ => none

theorem stPick_sound {P : Program} {F : Fns} {base : Nat} {E : Env} {σ : Plc} {m : Mem} {w : World} {g : G} {c a b : S} {r : R} {cv av bv' : Value}
    (h : stPick g c a b = some r) (hsat : Sat F E.ρ r.g.ssa) (hc : c.Den E σ cv) (ha : a.Den E σ av) (hb : b.Den E σ bv') :
    g.le r.g ∧ Comes1 P base E σ m w r (do pure (.value (if ← asBool cv then av else bv'))) := by
  unfold stPick at h
  split at h
  · rename_i n
    simp at h; subst h
    have hcv : cv = .bool (n != 0) := hc
    subst hcv
    refine ⟨G.le_refl g, .value (if (n != 0) = true then av else bv'), _, w, by simp [asBool, pure], .inl rfl, Post.val ?_⟩
    by_cases e : n = 0
    · simp [e]; exact hb
    · simp [e]; exact ha
  · rename_i x
    have hcv : cv = .bool (E.ρ x != 0) := hc
    subst hcv
    split at h
    · rename_i y z
      simp at h; subst h
      have h1 : av = .bool (y.ev E.ρ != 0) := ha
      have h2 : bv' = .bool (z.ev E.ρ != 0) := hb
      subst h1; subst h2
      refine ⟨G.le_push g _, .value (if (E.ρ x != 0) = true then .bool (y.ev E.ρ != 0) else .bool (z.ev E.ρ != 0)), _, w, by simp [asBool, pure], .inl rfl, Post.val ?_⟩
      show (if (E.ρ x != 0) = true then Value.bool (y.ev E.ρ != 0) else .bool (z.ev E.ρ != 0)) = .bool _
      rw [push_ev hsat]
      by_cases e : E.ρ x = 0 <;> simp [Ins.ev, A.ev, e]
    · rename_i k y k' z
      split at h
      · rename_i hk
        have := kb_eq hk
        subst this
        simp at h; subst h
        have h1 : av = .int k (y.ev E.ρ) := ha
        have h2 : bv' = .int k (z.ev E.ρ) := hb
        subst h1; subst h2
        refine ⟨G.le_push g _, .value (if (E.ρ x != 0) = true then .int k (y.ev E.ρ) else .int k (z.ev E.ρ)), _, w, by simp [asBool, pure], .inl rfl, Post.val ?_⟩
        show (if (E.ρ x != 0) = true then Value.int k (y.ev E.ρ) else .int k (z.ev E.ρ)) = .int k _
        rw [push_ev hsat]
        by_cases e : E.ρ x = 0 <;> simp [Ins.ev, A.ev, e]
      · simp at h
    · simp at h
  · simp at h

/-! ### interfaces, functions, arrays behind slices -/

def stIface (P : Program) (g : G) (t : TypeId) (x : S) : Option R :=
  match x, P.underlying t with
  | .one (.lf (.ptr r off)), some (.pointer _) => some (.val (.one (.lf (.ifp t r off))) g)
  | _, _ => none

theorem stIface_sound {P : Program} {base : Nat} {E : Env} {σ : Plc} {m : Mem} {w : World} {g : G} {t : TypeId} {x : S} {r : R} {a : Value}
    (h : stIface P g t x = some r) (hx : x.Den E σ a) : g.le r.g ∧ Comes1 P base E σ m w r (do pure (.value (← Instr.makeInterface t a))) := by
  unfold stIface at h
  split at h
  · rename_i r' off e hu
    simp at h; subst h
    obtain ⟨p, hp, rfl⟩ := hx
    refine ⟨G.le_refl g, Comes1.value (v := .iface t (.pointer (some (adr p off)))) (w' := w) ?_ (Post.val ⟨p, hp, rfl⟩)⟩
    simp [Instr.makeInterface, run_und hu]
  · simp at h

def capsOf : List S → Option (List (Nat × Nat))
  | [] => some []
  | .one (.lf (.ptr r off)) :: rest => (capsOf rest).map ((r, off) :: ·)
  | _ :: _ => none

theorem capsOf_den {E : Env} {σ : Plc} : ∀ {xs : List S} {cs : List (Nat × Nat)} {vs : List Value}, capsOf xs = some cs → All2 (S.Den E σ) xs vs →
    All2 (fun (c : Nat × Nat) u => ∃ p, σ c.1 = some p ∧ u = .pointer (some (adr p c.2))) cs vs
  | [], cs, vs, h, hd => by simp [capsOf] at h; subst h; cases hd; exact .nil
  | x :: xs, cs, vs, h, hd => by
    cases hd with
    | cons h1 h2 =>
      unfold capsOf at h
      split at h
      · rename_i e; cases e
      · rename_i r off rest e
        cases e
        simp only [Option.map_eq_some_iff] at h
        obtain ⟨cs', h3, rfl⟩ := h
        exact .cons h1 (capsOf_den h3 h2)
      · simp at h

def stFunc (g : G) (f : Fn) (first : List S) (caps : List S) : Option R :=
  match f, first, capsOf caps with
  | .func f, [], some cs => some (.val (.one (.lf (.fn f cs))) g)
  | _, _, _ => none

theorem stFunc_sound {P : Program} {base : Nat} {E : Env} {σ : Plc} {m : Mem} {w : World} {g : G} {f : Fn} {first caps : List S} {r : R} {av bv' : Array Value}
    (h : stFunc g f first caps = some r) (ha : All2 (S.Den E σ) first av.toList) (hb : All2 (S.Den E σ) caps bv'.toList) :
    g.le r.g ∧ Comes1 P base E σ m w r (do pure (.value (← Instr.makeFunc f av bv'))) := by
  unfold stFunc at h
  split at h
  · rename_i f' cs hcs
    simp at h; subst h
    have e : av = #[] := by
      cases hav : av.toList with
      | nil => exact Array.toList_inj.1 (by rw [hav])
      | cons _ _ => rw [hav] at ha; cases ha
    subst e
    refine ⟨G.le_refl g, Comes1.value (v := .func (.func f') #[] bv') (w' := w) ?_ (Post.val ⟨bv'.toList, rfl, capsOf_den hcs hb⟩)⟩
    simp [Instr.makeFunc, pure]
  · simp at h

def stArr (P : Program) (g : G) (t : TypeId) (x : S) : Option R :=
  match P.underlying t, x with
  | some (.array n _), .one (.lf (.slc r off len _)) => match Nat.ble n len with
    | true => some (.val (.one (.lf (.ptr r off))) g)
    | false => none
  | _, _ => none

theorem stArr_sound {P : Program} {base : Nat} {E : Env} {σ : Plc} {m : Mem} {w : World} {g : G} {t : TypeId} {x : S} {r : R} {a : Value}
    (h : stArr P g t x = some r) (hx : x.Den E σ a) : g.le r.g ∧ Comes1 P base E σ m w r (do pure (.value (← Instr.arrayAt t a))) := by
  unfold stArr at h
  split at h
  · rename_i n e r' off len c hu
    split at h
    · rename_i hle
      have hle := Nat.le_of_ble_eq_true hle
      simp at h; subst h
      obtain ⟨p, cc, hp, hl, _, rfl⟩ := hx
      refine ⟨G.le_refl g, Comes1.value (v := .pointer (some (adr p off))) (w' := w) ?_ (Post.val ⟨p, hp, rfl⟩)⟩
      simp [Instr.arrayAt, run_und hu, show ¬ len < n from by omega]
    · simp at h
  · simp at h

end Go.X

namespace Go.X

/-! ### templates: contracts over deep states -/

structure Tmpl where
  f : FuncId
  args : List S
  mem : Mem
  nin : Nat
  nout : Nat
  hasPre : Bool
  ret : S
  upd : List (Option (List L))
  news : Mem

structure B where
  is : List (Nat × A)
  rs : List (Nat × Nat × Nat)

def lkA : List (Nat × A) → Nat → Option A
  | [], _ => none
  | (y, a) :: r, x => match Nat.beq y x with | true => some a | false => lkA r x

def lkR : List (Nat × Nat × Nat) → Nat → Option (Nat × Nat)
  | [], _ => none
  | (y, a) :: r, x => match Nat.beq y x with | true => some a | false => lkR r x

def mA (t a : A) (b : B) : Option B :=
  match t with
  | .l n => match a with
    | .l m => match n == m with | true => some b | false => none
    | .v _ => none
  | .v x => match lkA b.is x with
    | none => some { b with is := (x, a) :: b.is }
    | some a' => match A.beq a a' with | true => some b | false => none

def mR (r off r' off' : Nat) (b : B) : Option B :=
  match Nat.ble off off' with
  | false => none
  | true => match lkR b.rs r with
    | none => some { b with rs := (r, r', off' - off) :: b.rs }
    | some (q, o) => match Nat.beq q r' && Nat.beq o (off' - off) with | true => some b | false => none

def beqNs : List Nat → List Nat → Bool
  | [], [] => true
  | a :: x, b :: y => Nat.beq a b && beqNs x y
  | _, _ => false

theorem beqNs_eq : ∀ {x y : List Nat}, beqNs x y = true → x = y
  | [], [], _ => rfl
  | a :: x, b :: y, h => by
    simp only [beqNs, Bool.and_eq_true] at h
    rw [Nat.eq_of_beq_eq_true h.1, beqNs_eq h.2]

def cstEq : Value → Value → Bool
  | .nilIface, .nilIface => true
  | .pointer none, .pointer none => true
  | .string a, .string b => beqNs (a.data.toList.map UInt8.toNat) (b.data.toList.map UInt8.toNat)
  | _, _ => false

theorem bytes_inj : ∀ {x y : List UInt8}, x.map UInt8.toNat = y.map UInt8.toNat → x = y
  | [], [], _ => rfl
  | a :: x, b :: y, h => by
    have h := List.cons.inj h
    rw [bytes_inj h.2, UInt8.toNat_inj.1 h.1]

theorem cstEq_eq {a b : Value} (h : cstEq a b = true) : a = b := by
  unfold cstEq at h
  split at h
  · rfl
  · rfl
  · rename_i a b
    have e := bytes_inj (beqNs_eq h)
    have e2 : a.data = b.data := Array.toList_inj.1 e
    cases a; cases b
    simp at e2
    subst e2; rfl
  · cases h

def mCaps : List (Nat × Nat) → List (Nat × Nat) → B → Option B
  | [], [], b => some b
  | (r, o) :: x, (r', o') :: y, b => match mR r o r' o' b with | some b => mCaps x y b | none => none
  | _, _, _ => none

def capOk : Option Nat → Option Nat → Bool
  | none, _ => true
  | some a, some b => Nat.beq a b
  | some _, none => false

def mL (t x : L) (b : B) : Option B :=
  match t, x with
  | .any, _ => some b
  | .int k a, .int k' a' => match kb k k' with | true => mA a a' b | false => none
  | .bool a, .bool a' => mA a a' b
  | .ptr r off, .ptr r' off' => mR r off r' off' b
  | .slc r off len cap, .slc r' off' len' cap' => match Nat.beq len len' && capOk cap cap' with | true => mR r off r' off' b | false => none
  | .ifp t r off, .ifp t' r' off' => match Nat.beq t t' with | true => mR r off r' off' b | false => none
  | .fn f cs, .fn f' cs' => match Nat.beq f f' with | true => mCaps cs cs' b | false => none
  | .gho g, .gho g' => match Nat.beq g g' with | true => some b | false => none
  | .cst v, .cst v' => match cstEq v v' with | true => some b | false => none
  | _, _ => none

def mLs : List L → List L → B → Option B
  | [], [], b => some b
  | t :: ts, x :: xs, b => match mL t x b with | some b => mLs ts xs b | none => none
  | _, _, _ => none

def mS1 (t x : S1) (b : B) : Option B :=
  match t, x with
  | .lf t, .lf x => mL t x b
  | .agg ts, .agg xs => mLs ts xs b
  | .lf .any, .agg _ => some b
  | _, _ => none

def mS (t x : S) (b : B) : Option B :=
  match t, x with
  | .one t, .one x => mS1 t x b
  | _, _ => none

def mSs : List S → List S → B → Option B
  | [], [], b => some b
  | t :: ts, x :: xs, b => match mS t x b with | some b => mSs ts xs b | none => none
  | _, _, _ => none

structure B.le (b b' : B) : Prop where
  is : ∀ x a, lkA b.is x = some a → lkA b'.is x = some a
  rs : ∀ x a, lkR b.rs x = some a → lkR b'.rs x = some a

theorem B.le_refl (b : B) : b.le b := ⟨fun _ _ h => h, fun _ _ h => h⟩
theorem B.le_trans {a b c : B} (h : a.le b) (k : b.le c) : a.le c := ⟨fun _ _ x => k.is _ _ (h.is _ _ x), fun _ _ x => k.rs _ _ (h.rs _ _ x)⟩

theorem beq_ff {a b : Nat} (h : a ≠ b) : Nat.beq a b = false := by
  cases hh : Nat.beq a b with
  | false => rfl
  | true => exact absurd (Nat.eq_of_beq_eq_true hh) h

theorem beq_tt (a : Nat) : Nat.beq a a = true := Nat.beq_refl a

/-- the inner state E, σ is seen through b: Et, σt -/
structure Seen (E : Env) (σ : Plc) (Et : Env) (σt : Plc) (b : B) : Prop where
  gv : Et.gv = E.gv
  is : ∀ x a, lkA b.is x = some a → Et.ρ x = a.ev E.ρ
  rs : ∀ r q o, lkR b.rs r = some (q, o) → ∀ p, σ q = some p → σt r = some (p.1, p.2 + o)

theorem Seen.mono {E : Env} {σ : Plc} {Et : Env} {σt : Plc} {b b' : B} (h : b.le b') (hs : Seen E σ Et σt b') : Seen E σ Et σt b :=
  ⟨hs.gv, fun x a hx => hs.is x a (h.is x a hx), fun r q o hr => hs.rs r q o (h.rs r _ hr)⟩

theorem mA_le {t a : A} {b b' : B} (h : mA t a b = some b') : b.le b' := by
  unfold mA at h
  split at h
  · split at h
    · split at h
      · cases h; exact B.le_refl _
      · cases h
    · cases h
  · rename_i x
    split at h
    · rename_i hn
      cases h
      refine ⟨?_, fun _ _ h => h⟩
      intro y c hy
      simp only [lkA]
      by_cases e : x = y
      · subst e; rw [hn] at hy; cases hy
      · rw [beq_ff e]; exact hy
    · split at h
      · cases h; exact B.le_refl _
      · cases h

theorem mA_ev {E : Env} {σ : Plc} {Et : Env} {σt : Plc} {t a : A} {b b' : B} (h : mA t a b = some b') (hs : Seen E σ Et σt b') : t.ev Et.ρ = a.ev E.ρ := by
  unfold mA at h
  split at h
  · split at h
    · split at h
      · rename_i n m hnm
        simp at hnm; subst hnm; rfl
      · cases h
    · cases h
  · rename_i x
    split at h
    · cases h
      exact hs.is x a (by simp [lkA])
    · rename_i a' ha'
      split at h
      · rename_i hb
        cases h
        have := A.eq_of_beq hb
        subst this
        exact hs.is x a ha'
      · cases h

theorem mR_le {r off r' off' : Nat} {b b' : B} (h : mR r off r' off' b = some b') : b.le b' := by
  unfold mR at h
  split at h
  · cases h
  · split at h
    · rename_i hn
      cases h
      refine ⟨fun _ _ h => h, ?_⟩
      intro y c hy
      simp only [lkR]
      by_cases e : r = y
      · subst e; rw [hn] at hy; cases hy
      · rw [beq_ff e]; exact hy
    · split at h
      · cases h; exact B.le_refl _
      · cases h

theorem mR_at {E : Env} {σ : Plc} {Et : Env} {σt : Plc} {r off r' off' : Nat} {b b' : B} (h : mR r off r' off' b = some b') (hs : Seen E σ Et σt b') {p : Nat × Nat} (hp : σ r' = some p) :
    ∃ q, σt r = some q ∧ adr q off = adr p off' := by
  unfold mR at h
  split at h
  · cases h
  · rename_i hle
    have hle := Nat.le_of_ble_eq_true hle
    have key : lkR b'.rs r = some (r', off' - off) → ∃ q, σt r = some q ∧ adr q off = adr p off' := by
      intro hk
      refine ⟨_, hs.rs r r' (off' - off) hk p hp, ?_⟩
      unfold adr
      simp only [Addr.mk.injEq, true_and, and_true]
      omega
    split at h
    · cases h
      exact key (by simp [lkR])
    · rename_i q o hq
      split at h
      · rename_i hb
        cases h
        simp only [Bool.and_eq_true] at hb
        have e1 := Nat.eq_of_beq_eq_true hb.1
        have e2 := Nat.eq_of_beq_eq_true hb.2
        subst e1
        exact key (by rw [hq, ← e2])
      · cases h

theorem mCaps_le : ∀ {x y : List (Nat × Nat)} {b b' : B}, mCaps x y b = some b' → b.le b'
  | [], [], b, b', h => by simp [mCaps] at h; subst h; exact B.le_refl _
  | [], _ :: _, b, b', h => by simp [mCaps] at h
  | _ :: _, [], b, b', h => by simp [mCaps] at h
  | (r, o) :: x, (r', o') :: y, b, b', h => by
    simp only [mCaps] at h
    split at h
    · rename_i b1 h1; exact B.le_trans (mR_le h1) (mCaps_le h)
    · cases h

theorem mCaps_den {E : Env} {σ : Plc} {Et : Env} {σt : Plc} : ∀ {x y : List (Nat × Nat)} {b b' : B} {vs : List Value}, mCaps x y b = some b' → Seen E σ Et σt b' →
    All2 (fun (c : Nat × Nat) u => ∃ p, σ c.1 = some p ∧ u = Value.pointer (some (adr p c.2))) y vs →
    All2 (fun (c : Nat × Nat) u => ∃ p, σt c.1 = some p ∧ u = Value.pointer (some (adr p c.2))) x vs
  | [], [], b, b', vs, h, hs, hd => by cases hd; exact .nil
  | [], _ :: _, b, b', vs, h, hs, hd => by simp [mCaps] at h
  | _ :: _, [], b, b', vs, h, hs, hd => by simp [mCaps] at h
  | (r, o) :: x, (r', o') :: y, b, b', vs, h, hs, hd => by
    simp only [mCaps] at h
    split at h
    · rename_i b1 h1
      cases hd with
      | cons d1 d2 =>
        obtain ⟨p, hp, rfl⟩ := d1
        obtain ⟨q, hq, e⟩ := mR_at h1 (hs.mono (mCaps_le h)) hp
        exact .cons ⟨q, hq, by rw [e]⟩ (mCaps_den h hs d2)
    · cases h

theorem mL_le {t x : L} {b b' : B} (h : mL t x b = some b') : b.le b' := by
  unfold mL at h
  split at h
  · cases h; exact B.le_refl _
  · split at h
    · exact mA_le h
    · cases h
  · exact mA_le h
  · exact mR_le h
  · split at h
    · exact mR_le h
    · cases h
  · split at h
    · exact mR_le h
    · cases h
  · split at h
    · exact mCaps_le h
    · cases h
  · split at h
    · cases h; exact B.le_refl _
    · cases h
  · split at h
    · cases h; exact B.le_refl _
    · cases h
  · cases h

theorem mL_den {E : Env} {σ : Plc} {Et : Env} {σt : Plc} {t x : L} {b b' : B} {v : Value} (h : mL t x b = some b') (hs : Seen E σ Et σt b') (hd : x.Den E σ v) : t.Den Et σt v := by
  unfold mL at h
  split at h
  · trivial
  · split at h
    · rename_i hk
      have := kb_eq hk
      subst this
      show v = .int _ _
      rw [mA_ev h hs]; exact hd
    · cases h
  · show v = .bool (_ != 0)
    rw [mA_ev h hs]; exact hd
  · obtain ⟨p, hp, rfl⟩ := hd
    obtain ⟨q, hq, e⟩ := mR_at h hs hp
    exact ⟨q, hq, by rw [e]⟩
  · split at h
    · rename_i hok
      simp only [Bool.and_eq_true] at hok
      have e1 := Nat.eq_of_beq_eq_true hok.1
      subst e1
      obtain ⟨p, c, hp, hl, hc, rfl⟩ := hd
      obtain ⟨q, hq, e⟩ := mR_at h hs hp
      refine ⟨q, c, hq, hl, ?_, by rw [e]⟩
      intro c' hc'
      subst hc'
      have h2 := hok.2
      unfold capOk at h2
      split at h2
      · rename_i e0; cases e0
      · rename_i a b e0; cases e0
        have := Nat.eq_of_beq_eq_true h2
        rw [this]; exact hc _ rfl
      · cases h2
    · cases h
  · split at h
    · rename_i hk
      have := Nat.eq_of_beq_eq_true hk
      subst this
      obtain ⟨p, hp, rfl⟩ := hd
      obtain ⟨q, hq, e⟩ := mR_at h hs hp
      exact ⟨q, hq, by rw [e]⟩
    · cases h
  · split at h
    · rename_i hk
      have := Nat.eq_of_beq_eq_true hk
      subst this
      obtain ⟨vs, rfl, ha⟩ := hd
      exact ⟨vs, rfl, mCaps_den h hs ha⟩
    · cases h
  · split at h
    · rename_i hk
      have := Nat.eq_of_beq_eq_true hk
      subst this
      have : v = E.gv _ := hd
      show v = Et.gv _
      rw [hs.gv]; exact this
    · cases h
  · split at h
    · rename_i hk
      have := cstEq_eq hk
      subst this
      exact hd
    · cases h
  · cases h

theorem mLs_le : ∀ {t x : List L} {b b' : B}, mLs t x b = some b' → b.le b'
  | [], [], b, b', h => by simp [mLs] at h; subst h; exact B.le_refl _
  | [], _ :: _, b, b', h => by simp [mLs] at h
  | _ :: _, [], b, b', h => by simp [mLs] at h
  | t :: ts, x :: xs, b, b', h => by
    simp only [mLs] at h
    split at h
    · rename_i b1 h1; exact B.le_trans (mL_le h1) (mLs_le h)
    · cases h

theorem mLs_len : ∀ {t x : List L} {b b' : B}, mLs t x b = some b' → t.length = x.length
  | [], [], b, b', h => rfl
  | [], _ :: _, b, b', h => by simp [mLs] at h
  | _ :: _, [], b, b', h => by simp [mLs] at h
  | t :: ts, x :: xs, b, b', h => by
    simp only [mLs] at h
    split at h
    · simp [mLs_len h]
    · cases h

/-- place by place -/
theorem mLs_get {E : Env} {σ : Plc} {Et : Env} {σt : Plc} : ∀ {t x : List L} {b b' : B}, mLs t x b = some b' → Seen E σ Et σt b' →
    ∀ (i : Nat) (c : L), t[i]? = some c → ∃ d : L, x[i]? = some d ∧ ∀ v, d.Den E σ v → c.Den Et σt v
  | [], [], b, b', h, hs, i, c, hc => by simp at hc
  | [], _ :: _, b, b', h, hs, i, c, hc => by simp at hc
  | _ :: _, [], b, b', h, hs, i, c, hc => by simp [mLs] at h
  | t :: ts, x :: xs, b, b', h, hs, i, c, hc => by
    simp only [mLs] at h
    split at h
    · rename_i b1 h1
      cases i with
      | zero => simp at hc; subst hc; exact ⟨x, rfl, fun v hv => mL_den h1 (hs.mono (mLs_le h)) hv⟩
      | succ i => simp at hc; simpa using mLs_get h hs i c hc
    · cases h

theorem mLs_den {E : Env} {σ : Plc} {Et : Env} {σt : Plc} {t x : List L} {b b' : B} {vs : List Value} (h : mLs t x b = some b') (hs : Seen E σ Et σt b') (hd : All2 (L.Den E σ) x vs) : All2 (L.Den Et σt) t vs := by
  refine All2.of_get ((mLs_len h).trans hd.length_eq) ?_
  intro i a v ha hv
  obtain ⟨d, hd1, hd2⟩ := mLs_get h hs i a ha
  obtain ⟨u, hu, hden⟩ := hd.get i d hd1
  rw [hu] at hv; cases hv
  exact hd2 _ hden

theorem mS1_le {t x : S1} {b b' : B} (h : mS1 t x b = some b') : b.le b' := by
  unfold mS1 at h
  split at h
  · exact mL_le h
  · exact mLs_le h
  · cases h; exact B.le_refl _
  · cases h

theorem mS_le {t x : S} {b b' : B} (h : mS t x b = some b') : b.le b' := by
  unfold mS at h
  split at h
  · exact mS1_le h
  · cases h

theorem mS_den {E : Env} {σ : Plc} {Et : Env} {σt : Plc} {t x : S} {b b' : B} {v : Value} (h : mS t x b = some b') (hs : Seen E σ Et σt b') (hd : x.Den E σ v) : t.Den Et σt v := by
  unfold mS at h
  split at h
  · unfold mS1 at h
    split at h
    · exact mL_den h hs hd
    · obtain ⟨vs, rfl, ha⟩ := hd
      exact ⟨vs, rfl, mLs_den h hs ha⟩
    · trivial
    · cases h
  · cases h

theorem mSs_le : ∀ {t x : List S} {b b' : B}, mSs t x b = some b' → b.le b'
  | [], [], b, b', h => by simp [mSs] at h; subst h; exact B.le_refl _
  | [], _ :: _, b, b', h => by simp [mSs] at h
  | _ :: _, [], b, b', h => by simp [mSs] at h
  | t :: ts, x :: xs, b, b', h => by
    simp only [mSs] at h
    split at h
    · rename_i b1 h1; exact B.le_trans (mS_le h1) (mSs_le h)
    · cases h

theorem mSs_den {E : Env} {σ : Plc} {Et : Env} {σt : Plc} : ∀ {t x : List S} {b b' : B} {vs : List Value}, mSs t x b = some b' → Seen E σ Et σt b' → All2 (S.Den E σ) x vs → All2 (S.Den Et σt) t vs
  | [], [], b, b', vs, h, hs, hd => by cases hd; exact .nil
  | [], _ :: _, b, b', vs, h, hs, hd => by simp [mSs] at h
  | _ :: _, [], b, b', vs, h, hs, hd => by simp [mSs] at h
  | t :: ts, x :: xs, b, b', vs, h, hs, hd => by
    simp only [mSs] at h
    split at h
    · rename_i b1 h1
      cases hd with
      | cons d1 d2 => exact .cons (mS_den h1 (hs.mono (mSs_le h)) d1) (mSs_den h hs d2)
    · cases h

/-- the regions of the template, one behind the other -/
def mMem (M : Mem) : Mem → Nat → B → Option B
  | [], _, b => some b
  | cs :: rest, r, b =>
    match lkR b.rs r with
    | none => none
    | some (q, o) =>
      match M[q]? with
      | none => none
      | some ds => match mLs cs ((ds.drop o).take cs.length) b with
        | some b => mMem M rest (r + 1) b
        | none => none

theorem mMem_le {M : Mem} : ∀ {t : Mem} {r : Nat} {b b' : B}, mMem M t r b = some b' → b.le b'
  | [], r, b, b', h => by simp [mMem] at h; subst h; exact B.le_refl _
  | cs :: rest, r, b, b', h => by
    simp only [mMem] at h
    split at h
    · cases h
    · split at h
      · cases h
      · split at h
        · rename_i b1 h1; exact B.le_trans (mLs_le h1) (mMem_le h)
        · cases h

theorem mMem_get {M : Mem} {E : Env} {σ : Plc} {Et : Env} {σt : Plc} : ∀ {t : Mem} {r : Nat} {b b' : B}, mMem M t r b = some b' → Seen E σ Et σt b' →
    ∀ (j : Nat) (cs : List L), t[j]? = some cs → ∃ (q o : Nat) (ds : List L), lkR b'.rs (r + j) = some (q, o) ∧ M[q]? = some ds ∧ o + cs.length ≤ ds.length + (if cs.length = 0 then o else 0) ∧
      ∀ (i : Nat) (c : L), cs[i]? = some c → ∃ d : L, ds[o + i]? = some d ∧ ∀ v, d.Den E σ v → c.Den Et σt v
  | [], r, b, b', h, hs, j, cs, hj => by simp at hj
  | c0 :: rest, r, b, b', h, hs, j, cs, hj => by
    simp only [mMem] at h
    split at h
    · cases h
    · rename_i q o hq
      split at h
      · cases h
      · rename_i ds hds
        split at h
        · rename_i b1 h1
          cases j with
          | zero =>
            simp at hj; subst hj
            have hle := B.le_trans (mLs_le h1) (mMem_le h)
            have hlen := mLs_len h1
            simp only [List.length_take, List.length_drop] at hlen
            refine ⟨q, o, ds, hle.rs _ _ hq, hds, ?_, ?_⟩
            · split <;> omega
            · intro i c hc
              obtain ⟨d, hd1, hd2⟩ := mLs_get h1 (hs.mono (mMem_le h)) i c hc
              refine ⟨d, ?_, hd2⟩
              rw [List.getElem?_take] at hd1
              split at hd1
              · rw [List.getElem?_drop] at hd1; exact hd1
              · cases hd1
          | succ j =>
            simp at hj
            have := mMem_get h hs j cs hj
            rwa [show r + 1 + j = r + (j + 1) from by omega] at this
        · cases h

end Go.X
