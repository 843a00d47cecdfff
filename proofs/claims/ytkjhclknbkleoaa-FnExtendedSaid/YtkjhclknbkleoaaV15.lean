/-
  A part of the proof of Ytkjhclknbkleoaa: texts N7, N8, N9, M26, M27, G12, M28. No conditions.
-/
import Derived.Test.YtkjhclknbkleoaaV14
import Derived.KernelRfl
namespace Go.X

/-! ### the curve: sums of points, whatever they are -/

theorem mul_ne {x y : Fp} (hx : x ≠ 0) (hy : y ≠ 0) : x * y ≠ 0 := fun h => (mul_zero_F h).elim hx hy

theorem inv_ne {x : Fp} (hx : x ≠ 0) : inv x ≠ 0 := by
  intro h
  have := inv_mul hx
  rw [h] at this
  exact iF_ne.2 (by grind)

theorem eq_div {x y z : Fp} (hz : z ≠ 0) (h : x * z = y) : x = y * inv z := by
  have := inv_mul hz
  grind

/-- no square -/
def NSq (d : Fp) : Prop := ∀ a b : Fp, b ≠ 0 → a * a ≠ d * (b * b)

/-- a point of the curve with the number d -/
def OnC (d x y : Fp) : Prop := y * y - x * x = 1 + d * (x * x) * (y * y)

section
variable {d x1 y1 x2 y2 : Fp}

theorem e_sq1 {e i : Fp} (hi : i * i = -1) (h1 : OnC d x1 y1) (h2 : OnC d x2 y2) (he : e = d * (x1 * x2) * (y1 * y2)) (h : e * e = 1) (s : Fp) (hs : s * s = 1) :
    (i * x1 + s * e * y1) * (i * x1 + s * e * y1) = d * ((x1 * y1 * (y2 + s * i * x2)) * (x1 * y1 * (y2 + s * i * x2))) := by
  unfold OnC at h1 h2
  have a1 : (i * x1 + s * e * y1) * (i * x1 + s * e * y1) = (y1 * y1 - x1 * x1) + 2 * (s * (i * (e * (x1 * y1)))) := by grind
  have a2 : d * ((x1 * y1 * (y2 + s * i * x2)) * (x1 * y1 * (y2 + s * i * x2))) = d * (x1 * x1) * (y1 * y1) * (y2 * y2 - x2 * x2) + 2 * (s * (i * (d * (x1 * x2) * (y1 * y2) * (x1 * y1)))) := by grind
  have a3 : d * (x1 * x1) * (y1 * y1) * (y2 * y2 - x2 * x2) = d * (x1 * x1) * (y1 * y1) + e * e := by
    rw [h2, he]; grind
  rw [a1, a2, a3, h, h1, ← he]
  grind

theorem e_ne (hd : NSq d) (h1 : OnC d x1 y1) (h2 : OnC d x2 y2) : (d * (x1 * x2) * (y1 * y2)) * (d * (x1 * x2) * (y1 * y2)) ≠ 1 := by
  intro h
  generalize he : d * (x1 * x2) * (y1 * y2) = e at h
  have k1 := e_sq1 iF_sq h1 h2 he.symm h 1 (by grind)
  have k2 := e_sq1 iF_sq h1 h2 he.symm h (-1) (by grind)
  have hne : e ≠ 0 := by
    intro h0
    rw [h0] at h
    exact iF_ne.2 (by grind)
  have n1 : x1 ≠ 0 := by intro h0; subst h0; exact hne (by grind)
  have n2 : y1 ≠ 0 := by intro h0; subst h0; exact hne (by grind)
  have n3 : y2 ≠ 0 := by intro h0; subst h0; exact hne (by grind)
  have n12 := mul_ne n1 n2
  by_cases c1 : y2 + 1 * iF * x2 = 0
  · by_cases c2 : y2 + -1 * iF * x2 = 0
    · have : 2 * y2 = 0 := by grind
      exact (mul_zero_F this).elim two_ne n3
    · exact hd _ _ (mul_ne n12 c2) k2
  · exact hd _ _ (mul_ne n12 c1) k1

theorem den_ne (hd : NSq d) (h1 : OnC d x1 y1) (h2 : OnC d x2 y2) : 1 + d * (x1 * x2) * (y1 * y2) ≠ 0 ∧ 1 - d * (x1 * x2) * (y1 * y2) ≠ 0 := by
  have := e_ne hd h1 h2
  generalize d * (x1 * x2) * (y1 * y2) = e at *
  refine ⟨?_, ?_⟩
  · intro h; exact this (by have : e = -1 := by grind
                            rw [this]; grind)
  · intro h; exact this (by have : e = 1 := by grind
                            rw [this]; grind)

theorem on_core {e : Fp} (h1 : OnC d x1 y1) (h2 : OnC d x2 y2) (he : e = d * (x1 * x2) * (y1 * y2)) :
    ((y1 * y2 + x1 * x2) * (1 + e)) * ((y1 * y2 + x1 * x2) * (1 + e)) - ((x1 * y2 + y1 * x2) * (1 - e)) * ((x1 * y2 + y1 * x2) * (1 - e)) =
      ((1 + e) * (1 - e)) * ((1 + e) * (1 - e)) + d * ((x1 * y2 + y1 * x2) * (x1 * y2 + y1 * x2)) * ((y1 * y2 + x1 * x2) * (y1 * y2 + x1 * x2)) := by
  unfold OnC at h1 h2
  have e2 : e * e = (d * (x1 * x1) * (y1 * y1)) * (d * (x2 * x2) * (y2 * y2)) := by rw [he]; grind
  have e3 : e * (x1 * x2 * (y1 * y2)) * d = e * e := by rw [he]; grind
  generalize hA : d * (x1 * x1) * (y1 * y1) = A at *
  generalize hB : d * (x2 * x2) * (y2 * y2) = B at *
  have p1 : (y1 * y2 + x1 * x2) * (y1 * y2 + x1 * x2) - (x1 * y2 + y1 * x2) * (x1 * y2 + y1 * x2) = (1 + A) * (1 + B) := by
    rw [← h1, ← h2]; grind
  have p2 : (y1 * y2 + x1 * x2) * (y1 * y2 + x1 * x2) + (x1 * y2 + y1 * x2) * (x1 * y2 + y1 * x2) = (y1 * y1 + x1 * x1) * (y2 * y2 + x2 * x2) + 4 * (x1 * x2 * (y1 * y2)) := by grind
  have p3 : (x1 * y2 + y1 * x2) * (y1 * y2 + x1 * x2) = x1 * y1 * (y2 * y2 + x2 * x2) + x2 * y2 * (y1 * y1 + x1 * x1) := by grind
  -- the product's square, with the squares of sums by those of differences
  have q1 : (y1 * y1 + x1 * x1) * (y1 * y1 + x1 * x1) = (1 + A) * (1 + A) + 4 * ((x1 * y1) * (x1 * y1)) := by rw [← h1]; grind
  have q2 : (y2 * y2 + x2 * x2) * (y2 * y2 + x2 * x2) = (1 + B) * (1 + B) + 4 * ((x2 * y2) * (x2 * y2)) := by rw [← h2]; grind
  have hA' : d * ((x1 * y1) * (x1 * y1)) = A := by rw [← hA]; grind
  have hB' : d * ((x2 * y2) * (x2 * y2)) = B := by rw [← hB]; grind
  have he' : d * ((x1 * y1) * (x2 * y2)) = e := by rw [he]; grind
  have l1 : ∀ (N D : Fp), ((y1 * y2 + x1 * x2) * (1 + e)) * ((y1 * y2 + x1 * x2) * (1 + e)) - ((x1 * y2 + y1 * x2) * (1 - e)) * ((x1 * y2 + y1 * x2) * (1 - e))
      = (1 + e * e) * ((y1 * y2 + x1 * x2) * (y1 * y2 + x1 * x2) - (x1 * y2 + y1 * x2) * (x1 * y2 + y1 * x2)) + 2 * e * ((y1 * y2 + x1 * x2) * (y1 * y2 + x1 * x2) + (x1 * y2 + y1 * x2) * (x1 * y2 + y1 * x2)) := by
    intro N D
    generalize y1 * y2 + x1 * x2 = n
    generalize x1 * y2 + y1 * x2 = m
    grind
  have l2 : d * ((x1 * y2 + y1 * x2) * (x1 * y2 + y1 * x2)) * ((y1 * y2 + x1 * x2) * (y1 * y2 + x1 * x2)) = d * (((x1 * y2 + y1 * x2) * (y1 * y2 + x1 * x2)) * ((x1 * y2 + y1 * x2) * (y1 * y2 + x1 * x2))) := by grind
  rw [l1 0 0, p1, p2, l2, p3]
  have hxy : x1 * x2 * (y1 * y2) = (x1 * y1) * (x2 * y2) := by grind
  rw [hxy]
  generalize x1 * y1 = a at *
  generalize x2 * y2 = b at *
  generalize y1 * y1 + x1 * x1 = S at *
  generalize y2 * y2 + x2 * x2 = T at *
  have r1 : d * ((a * T + b * S) * (a * T + b * S)) = (d * (a * a)) * (T * T) + 2 * (d * (a * b)) * (S * T) + (d * (b * b)) * (S * S) := by grind
  rw [r1, hA', hB', he', q1, q2]
  have r2 : A * (4 * (b * b)) = 4 * (e * (a * b)) := by rw [← hA', ← he']; grind
  have r3 : B * (4 * (a * a)) = 4 * (e * (a * b)) := by rw [← hB', ← he']; grind
  have r4 : A * ((1 + B) * (1 + B) + 4 * (b * b)) = A * ((1 + B) * (1 + B)) + 4 * (e * (a * b)) := by rw [← r2]; grind
  have r5 : B * ((1 + A) * (1 + A) + 4 * (a * a)) = B * ((1 + A) * (1 + A)) + 4 * (e * (a * b)) := by rw [← r3]; grind
  rw [r4, r5]
  clear r1 r2 r3 r4 r5 q1 q2 p1 p2 p3 l1 l2 hxy hA' hB' he' e3 hA hB he h1 h2
  grind

/-- the sum of two points -/
def aX (d x1 y1 x2 y2 : Fp) : Fp := (x1 * y2 + y1 * x2) * inv (1 + d * (x1 * x2) * (y1 * y2))
def aY (d x1 y1 x2 y2 : Fp) : Fp := (y1 * y2 + x1 * x2) * inv (1 - d * (x1 * x2) * (y1 * y2))

theorem add_on (hd : NSq d) (h1 : OnC d x1 y1) (h2 : OnC d x2 y2) : OnC d (aX d x1 y1 x2 y2) (aY d x1 y1 x2 y2) := by
  obtain ⟨k1, k2⟩ := den_ne hd h1 h2
  have hc := on_core h1 h2 rfl
  unfold OnC aX aY
  generalize d * (x1 * x2) * (y1 * y2) = e at *
  generalize x1 * y2 + y1 * x2 = m at *
  generalize y1 * y2 + x1 * x2 = n at *
  have i1 := inv_mul k1
  have i2 := inv_mul k2
  generalize inv (1 + e) = u at *
  generalize inv (1 - e) = w at *
  generalize 1 + e = D at *
  generalize 1 - e = E at *
  have f1 : n * w * (n * w) - m * u * (m * u) = ((n * D) * (n * D) - (m * E) * (m * E)) * (u * w) * (u * w) := by grind
  have f2 : 1 + d * (m * u * (m * u)) * (n * w * (n * w)) = ((D * E) * (D * E) + d * (m * m) * (n * n)) * (u * w) * (u * w) := by grind
  rw [f1, f2, hc]

end

end Go.X

namespace Go.X

/-! ### points of the curve: as they are said, and as the program has them -/

theorem div_eq_div {x y m n : Fp} (hy : y ≠ 0) (hn : n ≠ 0) (h : x * n = m * y) : x * inv y = m * inv n := by
  have h1 := inv_mul hy
  have h2 := inv_mul hn
  generalize inv y = u at *
  generalize inv n = w at *
  have e1 : x * u = (x * n) * (u * w) := by grind
  rw [e1, h]
  grind

structure Pt where
  X : Fp
  Y : Fp
  Z : Fp

def Pt.x (p : Pt) : Fp := p.X * inv p.Z
def Pt.y (p : Pt) : Fp := p.Y * inv p.Z
def Pt.ok (d : Fp) (p : Pt) : Prop := p.Z ≠ 0 ∧ OnC d p.x p.y

def Pt.plus (d : Fp) (p q : Pt) : Pt :=
  ⟨p.Z * q.Z * (p.Z * q.Z * (p.Z * q.Z) - d * (p.X * q.X * (p.Y * q.Y))) * ((p.X + p.Y) * (q.X + q.Y) - p.X * q.X - p.Y * q.Y),
   p.Z * q.Z * (p.Z * q.Z * (p.Z * q.Z) + d * (p.X * q.X * (p.Y * q.Y))) * (p.X * q.X + p.Y * q.Y),
   (p.Z * q.Z * (p.Z * q.Z) - d * (p.X * q.X * (p.Y * q.Y))) * (p.Z * q.Z * (p.Z * q.Z) + d * (p.X * q.X * (p.Y * q.Y)))⟩

theorem Pt.ex {d : Fp} {p : Pt} (h : p.ok d) : p.X = p.x * p.Z ∧ p.Y = p.y * p.Z := by
  have := inv_mul h.1
  unfold Pt.x Pt.y
  constructor <;> grind

theorem Pt.plus_ok {d : Fp} {p q : Pt} (hd : NSq d) (hp : p.ok d) (hq : q.ok d) : (p.plus d q).ok d ∧ (p.plus d q).x = aX d p.x p.y q.x q.y ∧ (p.plus d q).y = aY d p.x p.y q.x q.y := by
  obtain ⟨k1, k2⟩ := den_ne hd hp.2 hq.2
  obtain ⟨a1, a2⟩ := p.ex hp
  obtain ⟨b1, b2⟩ := q.ex hq
  have hz := mul_ne hp.1 hq.1
  have hon := add_on hd hp.2 hq.2
  suffices h : (p.plus d q).Z ≠ 0 ∧ (p.plus d q).x = aX d p.x p.y q.x q.y ∧ (p.plus d q).y = aY d p.x p.y q.x q.y by
    refine ⟨⟨h.1, ?_⟩, h.2⟩
    rw [h.2.1, h.2.2]; exact hon
  clear hon
  unfold aX aY
  generalize p.x = x1 at *
  generalize p.y = y1 at *
  generalize q.x = x2 at *
  generalize q.y = y2 at *
  obtain ⟨X1, Y1, Z1⟩ := p
  obtain ⟨X2, Y2, Z2⟩ := q
  replace a1 : X1 = x1 * Z1 := a1
  replace a2 : Y1 = y1 * Z1 := a2
  replace b1 : X2 = x2 * Z2 := b1
  replace b2 : Y2 = y2 * Z2 := b2
  replace hz : Z1 * Z2 ≠ 0 := hz
  subst a1 a2 b1 b2
  clear hp hq
  unfold Pt.x Pt.y Pt.plus
  dsimp only
  have e1 : d * (x1 * Z1 * (x2 * Z2) * (y1 * Z1 * (y2 * Z2))) = d * (x1 * x2) * (y1 * y2) * (Z1 * Z2 * (Z1 * Z2)) := by grind
  have e2 : (x1 * Z1 + y1 * Z1) * (x2 * Z2 + y2 * Z2) - x1 * Z1 * (x2 * Z2) - y1 * Z1 * (y2 * Z2) = (x1 * y2 + y1 * x2) * (Z1 * Z2) := by grind
  have e3 : x1 * Z1 * (x2 * Z2) + y1 * Z1 * (y2 * Z2) = (y1 * y2 + x1 * x2) * (Z1 * Z2) := by grind
  rw [e1, e2, e3]
  generalize d * (x1 * x2) * (y1 * y2) = e at *
  generalize x1 * y2 + y1 * x2 = m at *
  generalize y1 * y2 + x1 * x2 = n at *
  generalize Z1 * Z2 = a at *
  have hb : a * a ≠ 0 := mul_ne hz hz
  have f1 : a * a - e * (a * a) = a * a * (1 - e) := by grind
  have f2 : a * a + e * (a * a) = a * a * (1 + e) := by grind
  rw [f1, f2]
  have n1 := mul_ne hb k2
  have n2 := mul_ne hb k1
  refine ⟨mul_ne n1 n2, div_eq_div (mul_ne n1 n2) k1 ?_, div_eq_div (mul_ne n1 n2) k2 ?_⟩
  · clear k1 k2 n1 n2 hb hz f1 f2 e1 e2 e3
    grind
  · clear k1 k2 n1 n2 hb hz f1 f2 e1 e2 e3
    grind

def Pt.none : Pt := ⟨0, 1, 1⟩
theorem inv_1 : inv (1 : Fp) = 1 := by
  have h := inv_mul (x := 1) iF_ne.2
  generalize inv 1 = z at *
  grind
theorem on_none (d : Fp) : OnC d 0 1 := by unfold OnC; grind
theorem Pt.one_x (x y : Fp) : Pt.x ⟨x, y, 1⟩ = x ∧ Pt.y ⟨x, y, 1⟩ = y := by
  unfold Pt.x Pt.y
  rw [inv_1]
  constructor <;> grind
theorem Pt.one_ok {d x y : Fp} (h : OnC d x y) : Pt.ok d ⟨x, y, 1⟩ := by
  refine ⟨iF_ne.2, ?_⟩
  rw [(Pt.one_x x y).1, (Pt.one_x x y).2]; exact h
theorem Pt.none_ok (d : Fp) : Pt.none.ok d := Pt.one_ok (on_none d)

/-- the program's points -/
structure E4 where
  X : Fp
  Y : Fp
  Z : Fp
  T : Fp

def E4.pt (p : E4) : Pt := ⟨p.X, p.Y, p.Z⟩
def E4.ok (d : Fp) (p : E4) : Prop := p.pt.ok d ∧ p.X * p.Y = p.Z * p.T

/-- a point before it is brought to one z -/
structure Q4 where
  X : Fp
  Y : Fp
  Z : Fp
  T : Fp
def Q4.ex (q : Q4) : E4 := ⟨q.X * q.T, q.Y * q.Z, q.Z * q.T, q.X * q.Y⟩
def Q4.p2 (q : Q4) : Pt := ⟨q.X * q.T, q.Y * q.Z, q.Z * q.T⟩

def E4.plus (d : Fp) (p q : E4) : Q4 :=
  ⟨(p.Y + p.X) * (q.Y + q.X) - (p.Y - p.X) * (q.Y - q.X), (p.Y + p.X) * (q.Y + q.X) + (p.Y - p.X) * (q.Y - q.X),
   p.Z * q.Z + p.Z * q.Z + p.T * (q.T * (d + d)), p.Z * q.Z + p.Z * q.Z - p.T * (q.T * (d + d))⟩
/-- what a sum must be -/
def Q4.good (d x y : Fp) (q : Q4) : Prop := q.ex.ok d ∧ q.p2.ok d ∧ q.p2.x = x ∧ q.p2.y = y

theorem sub_self_F (w : Fp) : w - w = 0 := by grind

/-- not both coordinates are nought -/
theorem Pt.nz {d : Fp} {p : Pt} (h : p.ok d) : ¬ (p.X = 0 ∧ p.Y = 0) := by
  rintro ⟨h1, h2⟩
  have ho := h.2
  unfold OnC Pt.x Pt.y at ho
  rw [h1, h2] at ho
  generalize inv p.Z = z at ho
  rw [sub_self_F, Fin.zero_mul, Fin.mul_zero, Fin.mul_zero, Fin.add_zero] at ho
  exact iF_ne.2 ho.symm

end Go.X

namespace Go.X

/-! ### the curve's number is no square; points in bytes, there and back -/

theorem half_sq {a b d : Fp} (hb : b ≠ 0) (ha : a ≠ 0) (h : a * a = d * (b * b)) : d ^ ((pN - 1) / 2) = 1 := by
  have h1 : d = a * inv b * (a * inv b) := by
    have := inv_mul hb
    generalize inv b = u at *
    have e : a * u * (a * u) = (a * a) * (u * u) := by grind
    rw [e, h]; grind
  have hn : a * inv b ≠ 0 := mul_ne ha (inv_ne hb)
  have h2 := fermatF hn
  rw [h1, mul_pow_F, ← pow_add_F, show (pN - 1) / 2 + (pN - 1) / 2 = pN - 1 from by decide]
  exact h2

theorem dN_half : (φ dN) ^ ((pN - 1) / 2) ≠ 1 := by
  intro h
  have e := congrArg Fin.val h
  have hlt : (pN - 1) / 2 < 2 ^ 600 := lt600 (k := 600) (by decide) (by decide)
  have hp : (pm (φ dN).val ((pN - 1) / 2) pN % pN == (1 : Fp).val) = false := by kernel_rfl
  rw [val_pow, ← pm_eq hlt] at e
  rw [e, beq_self_eq_true] at hp
  cases hp

theorem dF_ne : dF ≠ 0 := by
  rw [← dN_dF]
  intro h
  have e := congrArg Fin.val h
  exact absurd e (by decide +kernel)

theorem d_nsq : NSq dF := by
  intro a b hb h
  by_cases ha : a = 0
  · rw [ha] at h
    have : dF * (b * b) = 0 := by rw [← h]; grind
    rcases mul_zero_F this with h1 | h1
    · exact dF_ne h1
    · exact mul_ne hb hb h1
  · have := half_sq hb ha h
    rw [← dN_dF] at this
    exact dN_half this

theorem vF_ne (y : Fp) : vF y ≠ 0 := by
  intro h
  unfold vF at h
  by_cases hy : y = 0
  · rw [hy, g1] at h; exact iF_ne.2 h
  · exact d_nsq iF y hy (by rw [iF_sq]; grind)

/-- on the curve, by the square of the first coordinate -/
theorem on_iff {x y : Fp} : OnC dF x y ↔ x * x * vF y = uF y := by
  unfold OnC uF vF
  generalize dF = d
  constructor
  · intro h; grind
  · intro h; grind

theorem c_sq {x : Fp} (hx : x ≠ 0) : cF (x * x) = 1 ∨ cF (x * x) = -1 := by
  have h4 := fourth (cF_4 hx)
  have e : cF (x * x) = cF x * cF x := by unfold cF; exact mul_pow_F _ _ _
  rw [e]
  have hi := iF_sq
  rcases h4 with h | h | h | h <;> rw [h]
  · left; grind
  · left; grind
  · right; exact hi
  · right; grind

theorem on_ok {x y : Fp} (h : OnC dF x y) : okF (uF y) (vF y) ∧ sqF (uF y) (vF y) * sqF (uF y) (vF y) = x * x := by
  have h1 := on_iff.1 h
  have hv := vF_ne y
  by_cases hx : x = 0
  · subst hx
    have hu : uF y = 0 := by rw [← h1]; grind
    rw [hu]
    refine ⟨(zero_u _).1, ?_⟩
    rw [(zero_u _).2]
  · have hu : uF y ≠ 0 := by rw [← h1]; exact mul_ne (mul_ne hx hx) hv
    have e : uF y * inv (vF y) = x * x := (eq_div hv h1).symm
    have hok : okF (uF y) (vF y) := by
      rw [ok_iff hu hv, e]; exact c_sq hx
    refine ⟨hok, ?_⟩
    unfold sqF
    rw [absF_sq, sel_sq hu hv, if_pos hok, e]

theorem neg_odd {x : Fp} (hx : x ≠ 0) (h : x.val % 2 = 0) : (-x).val % 2 = 1 := by
  have hl := x.isLt
  have h0 : x.val ≠ 0 := fun e => hx (Fin.ext (by rw [e]; rfl))
  have hv : (-x).val = pN - x.val := by
    rw [Fin.val_neg', Nat.mod_eq_of_lt (by omega)]
  have hp : pN % 2 = 1 := by decide
  rw [hv]; omega

theorem sq_even (u v : Fp) : (sqF u v).val % 2 = 0 := absF_even _

/-- the coordinate comes again of the other one and its bit -/
theorem xF_on {x y : Fp} (h : OnC dF x y) {s : Int} (hs : s = if x.val % 2 = 1 then 1 else 0) : xF y s = x := by
  obtain ⟨-, h2⟩ := on_ok h
  have he := sq_even (uF y) (vF y)
  unfold xF
  generalize sqF (uF y) (vF y) = r at *
  by_cases ho : x.val % 2 = 1
  · rw [if_pos ho] at hs
    rw [if_pos hs]
    rcases sq_eq h2 with h3 | h3
    · rw [h3] at he; omega
    · rw [h3]; grind
  · rw [if_neg ho] at hs
    rw [if_neg (by omega)]
    rcases sq_eq h2 with h3 | h3
    · exact h3
    · by_cases hr : r = 0
      · rw [hr] at h3 ⊢
        have : x = -0 := by rw [h3]; grind
        rw [this]; grind
      · have := neg_odd hr he
        have e : -r = x := by rw [h3]; grind
        rw [e] at this
        exact absurd this ho

/-- what is decoded is on the curve -/
theorem dec_on {b : List Int} (hp : isPt b) : OnC dF (xF (eF b) (sgB b)) (eF b) := by
  have hv := vF_ne (eF b)
  rw [on_iff]
  by_cases hu : uF (eF b) = 0
  · have e : xF (eF b) (sgB b) = 0 := by
      unfold xF
      rw [hu, (zero_u _).2]
      by_cases h : sgB b = 1
      · rw [if_pos h]; grind
      · rw [if_neg h]
    rw [e, hu]; grind
  · exact xF_sq hv hu hp

theorem or_128 : ∀ n : Nat, n < 128 → (n ||| 128) = n + 128 := by decide

theorem op_or128 {x : Int} (h : 0 ≤ x ∧ x < 128) : op2 .or .u8 x 128 = x + 128 := by
  obtain ⟨n, rfl⟩ := Int.eq_ofNat_of_zero_le h.1
  have hn : n < 128 := by omega
  have e1 := (bits_nat .u8 8 (by decide) (fun n a b => wrap_w (k := .u8) n a b) n 128 (by omega) (by decide)).2
  have e : op2 .or .u8 (n : Int) 128 = ((n ||| 128 : Nat) : Int) := e1
  rw [e, or_128 n hn]; omega

theorem bB_split (y : Fp) : bB y = toD 256 31 (y.val : Int) ++ [(y.val : Int) / 256 ^ 31] ∧ (0 ≤ (y.val : Int) / 256 ^ 31 ∧ (y.val : Int) / 256 ^ 31 < 128) := by
  obtain ⟨h0, h1⟩ := val_lt y
  have e : toD 256 32 (y.val : Int) = toD 256 31 (y.val : Int) ++ toD 256 1 ((y.val : Int) / 256 ^ 31) := toD_split (by decide) 31 1 _
  have p : (256 : Int) ^ 31 = 452312848583266388373324160190187140051835877600158453279131187530910662656 := by decide
  have hb : 0 ≤ (y.val : Int) / 256 ^ 31 ∧ (y.val : Int) / 256 ^ 31 < 128 := by rw [p]; omega
  refine ⟨?_, hb⟩
  unfold bB
  rw [e]
  have : toD 256 1 ((y.val : Int) / 256 ^ 31) = [((y.val : Int) / 256 ^ 31) % 256] := rfl
  rw [this, Int.emod_eq_of_lt hb.1 (by omega)]

theorem ofD_bB (y : Fp) : ofD 256 (bB y) = y.val := by
  obtain ⟨h0, h1⟩ := val_lt y
  unfold bB
  rw [ofD_toD (by decide)]
  exact Int.emod_eq_of_lt h0 (Int.lt_trans h1 (by decide))

/-- the number of a point's bytes -/
theorem ofD_encB (x y : Fp) : ofD 256 (encB x y) = y.val + (if x.val % 2 = 1 then 57896044618658097711785492504343953926634992332820282019728792003956564819968 else 0) := by
  unfold encB
  by_cases h : x.val % 2 = 1
  · rw [if_pos h, if_pos h]
    obtain ⟨e, hb⟩ := bB_split y
    have hy := ofD_bB y
    rw [e] at hy ⊢
    have l31 := toD_len 256 31 (y.val : Int)
    rw [List.take_left' l31, List.getD_eq_getElem?_getD, List.getElem?_append_right (by rw [l31]; decide), l31]
    show ofD 256 (toD 256 31 (y.val : Int) ++ [op2 .or .u8 ((y.val : Int) / 256 ^ 31) 128]) = _
    rw [op_or128 hb]
    rw [ofD_append, l31] at hy ⊢
    have e1 : ∀ z : Int, ofD 256 [z] = z + 256 * 0 := fun z => rfl
    rw [e1] at hy ⊢
    have p : (256 : Int) ^ 31 = 452312848583266388373324160190187140051835877600158453279131187530910662656 := by decide
    rw [p] at hy ⊢
    generalize ofD 256 (toD 256 31 (y.val : Int)) = A at *
    generalize (y.val : Int) / 452312848583266388373324160190187140051835877600158453279131187530910662656 = B at *
    omega
  · rw [if_neg h, if_neg h, ofD_bB, Int.add_zero]

theorem enc_eF (x y : Fp) : eF (encB x y) = y := by
  unfold eF
  rw [el_val, ofD_encB]
  obtain ⟨h0, h1⟩ := val_lt y
  have e : ((y.val : Int) + (if x.val % 2 = 1 then (57896044618658097711785492504343953926634992332820282019728792003956564819968 : Int) else 0)) % 57896044618658097711785492504343953926634992332820282019728792003956564819968 = y.val := by
    by_cases h : x.val % 2 = 1
    · rw [if_pos h]; omega
    · rw [if_neg h]; omega
  rw [e, φ_of]

theorem enc_sg (x y : Fp) : sgB (encB x y) = if x.val % 2 = 1 then 1 else 0 := by
  unfold sgB
  rw [ofD_encB]
  obtain ⟨h0, h1⟩ := val_lt y
  by_cases h : x.val % 2 = 1
  · rw [if_pos h, if_pos h]; omega
  · rw [if_neg h, if_neg h]; omega

/-- bytes of a point are a point, and this one -/
theorem enc_dec {x y : Fp} (h : OnC dF x y) : isPt (encB x y) ∧ eF (encB x y) = y ∧ xF (eF (encB x y)) (sgB (encB x y)) = x := by
  have e := enc_eF x y
  refine ⟨?_, e, ?_⟩
  · unfold isPt; rw [e]; exact (on_ok h).1
  · rw [e]; exact xF_on h (enc_sg x y)

end Go.X

set_option maxRecDepth 20000
namespace Go.X

/-! ### points: what is said of them, in words -/

theorem seg_at {v : Nat → Int} {xs : List Int} {n : Nat} (h : seg v 0 n = xs) (k : Nat) {m : Nat} (hk : k + m ≤ n) : seg v k m = (xs.drop k).take m := by
  rw [← h, seg_drop v (by omega), seg_take v (by omega), Nat.zero_add]

/-- the words of a point -/
def pL (p : Pt) : List Int := nF p.X ++ (nF p.Y ++ nF p.Z)
theorem pL_len (p : Pt) : (pL p).length = 48 := by
  unfold pL; rw [List.length_append, List.length_append, nF_len, nF_len, nF_len]
theorem pL_in (p : Pt) : InB (WB 48) (pL p) := InB.append (a := WB 16) (b := WB 32) (nF_in _) (nF_in2 _ _)

theorem seg_pL {v : Nat → Int} {k : Nat} {p : Pt} (h : seg v k 48 = pL p) : seg v k 16 = nF p.X ∧ seg v (k + 16) 16 = nF p.Y ∧ seg v (k + 32) 16 = nF p.Z := by
  obtain ⟨h1, h2⟩ := seg_two (n := 16) (m := 32) h (nF_len _)
  obtain ⟨h3, h4⟩ := seg_two (n := 16) (m := 16) h2 (nF_len _)
  exact ⟨h1, h3, h4⟩

theorem seg32 {v : Nat → Int} (k : Nat) : seg v k 32 = seg v k 16 ++ seg v (k + 16) 16 := seg_add v 16 16 k

theorem cPlus_val (d : Fp) (p q : Pt) : s_cPlus.f (nF d ++ (pL p ++ pL q)) = pL (p.plus d q) := by
  have hx : InB (WB 112) (nF d ++ (pL p ++ pL q)) := InB.append (a := WB 16) (b := WB 96) (nF_in _) (InB.append (a := WB 48) (b := WB 48) (pL_in _) (pL_in _))
  obtain ⟨v, -, hin, ⟨h112, h128, h144, h160, h176, h192, h208, h224, h240, h256, h272, h288, h304, h320, h336, h352, h368, h384, h400⟩, -, hf⟩ := E_cPlus _ hx
  obtain ⟨k0, k1⟩ := seg_two (n := 16) (m := 96) hin (nF_len _)
  obtain ⟨k1, k2⟩ := seg_two (n := 48) (m := 48) k1 (pL_len _)
  obtain ⟨x1, y1, z1⟩ := seg_pL k1
  obtain ⟨x2, y2, z2⟩ := seg_pL k2
  have x1 : seg v 16 16 = _ := x1
  have y1 : seg v 32 16 = _ := y1
  have z1 : seg v 48 16 = _ := z1
  have x2 : seg v 64 16 = _ := x2
  have y2 : seg v 80 16 = _ := y2
  have z2 : seg v 96 16 = _ := z2
  rw [z1, z2, FMul_val, gets_all (nF_len _)] at h112
  rw [h112, FMul_val, gets_all (nF_len _)] at h128
  rw [x1, x2, FMul_val, gets_all (nF_len _)] at h144
  rw [y1, y2, FMul_val, gets_all (nF_len _)] at h160
  rw [seg32, h144, h160, FMul_val, gets_all (nF_len _)] at h176
  rw [k0, h176, FMul_val, gets_all (nF_len _)] at h192
  rw [h128, h192, FSub_val, gets_all (nF_len _)] at h208
  rw [h128, h192, FAdd_val, gets_all (nF_len _)] at h224
  rw [seg32, x1, y1, FAdd_val, gets_all (nF_len _)] at h240
  rw [seg32, x2, y2, FAdd_val, gets_all (nF_len _)] at h256
  rw [seg32, h240, h256, FMul_val, gets_all (nF_len _)] at h272
  rw [h272, h144, FSub_val, gets_all (nF_len _)] at h288
  rw [h288, h160, FSub_val, gets_all (nF_len _)] at h304
  rw [h112, h208, FMul_val, gets_all (nF_len _)] at h320
  rw [h320, h304, FMul_val, gets_all (nF_len _)] at h336
  rw [h112, h224, FMul_val, gets_all (nF_len _)] at h352
  rw [seg32, h144, h160, FAdd_val, gets_all (nF_len _)] at h368
  rw [seg32, h352, h368, FMul_val, gets_all (nF_len _)] at h384
  rw [seg32, h208, h224, FMul_val, gets_all (nF_len _)] at h400
  rw [hf, h336, seg32, h384, h400]
  rfl

/-! sameness -/

def w16 (xs : List Int) (k : Nat) : List Int := (xs.drop k).take 16
def cE1 (xs : List Int) : Int := b2i (s_FMul.f (w16 xs 16 ++ w16 xs 96) == s_FMul.f (w16 xs 64 ++ w16 xs 48))
def cE2 (xs : List Int) : Int := b2i (s_FMul.f (w16 xs 32 ++ w16 xs 96) == s_FMul.f (w16 xs 80 ++ w16 xs 48))
def f_cSame (xs : List Int) : List Int := if cE1 xs ≠ 0 then [cE2 xs] else [0]

theorem b2i_01 (b : Bool) : 0 ≤ b2i b ∧ b2i b ≤ 1 := by cases b <;> decide

def s_cSame : Sem := Sem.of f_cSame (WB 112) [(0, 1)] (fun xs _ => by
  unfold f_cSame
  split
  · exact ⟨(b2i_01 _).1, (b2i_01 _).2, trivial⟩
  · exact ⟨by decide, by decide, trivial⟩)

theorem WB_sub : ∀ (n : Nat) {xs : List Int}, InB (WB (n + 16)) xs → InB (WB 16) (xs.drop n) := by
  intro n xs h
  have e : WB (n + 16) = WB n ++ WB 16 := by unfold WB; exact List.replicate_append_replicate.symm
  rw [e] at h
  have := (InB.split h).2
  have hl : (WB n).length = n := by unfold WB; exact List.length_replicate ..
  rw [hl] at this
  exact this

theorem w16_in {xs : List Int} (h : InB (WB 112) xs) (k m : Nat) (hk : k + 16 + m = 112) : InB (WB 16) (w16 xs k) := by
  have e : WB 112 = WB (k + 16) ++ WB m := by rw [← hk]; unfold WB; exact List.replicate_append_replicate.symm
  rw [e] at h
  have h1 := (InB.split h).1
  have hl : (WB (k + 16)).length = k + 16 := by unfold WB; exact List.length_replicate ..
  rw [hl] at h1
  have h2 := WB_sub k h1
  unfold w16
  have e2 : (xs.take (k + 16)).drop k = (xs.drop k).take 16 := by rw [List.drop_take]; congr 1; omega
  rw [e2] at h2; exact h2

theorem cov_cSame : Covered l_cSame s_cSame q_cSame := by
  intro xs hx
  have hx : InB (WB 112) xs := hx
  have hs : s_cSame.f xs = f_cSame xs := rfl
  have lM : ∀ {a b : List Int}, InB (WB 16) a → InB (WB 16) b → (s_FMul.f (a ++ b)).length = 16 := fun ha hb => (FMul_bd ha hb).len
  have i1 := w16_in hx 16 80 rfl
  have i2 := w16_in hx 32 64 rfl
  have i3 := w16_in hx 48 48 rfl
  have i4 := w16_in hx 64 32 rfl
  have i5 := w16_in hx 80 16 rfl
  have i6 := w16_in hx 96 0 rfl
  have key : ∀ {v : Nat → Int}, seg v 0 112 = xs → seg v 112 16 = gets (s_FMul.f (seg v 16 16 ++ seg v 96 16)) 0 16 → seg v 128 16 = gets (s_FMul.f (seg v 64 16 ++ seg v 48 16)) 0 16 → v 144 = b2i ((seg v 112 16) == (seg v 128 16)) → v 144 = cE1 xs := by
    intro v hin h1 h2 h3
    have k1 : seg v 16 16 = w16 xs 16 := seg_at hin 16 (by decide)
    have k3 : seg v 48 16 = w16 xs 48 := seg_at hin 48 (by decide)
    have k4 : seg v 64 16 = w16 xs 64 := seg_at hin 64 (by decide)
    have k6 : seg v 96 16 = w16 xs 96 := seg_at hin 96 (by decide)
    rw [k1, k6, gets_all (lM i1 i6)] at h1
    rw [k4, k3, gets_all (lM i4 i3)] at h2
    rw [h1, h2] at h3
    exact h3
  by_cases hc : cE1 xs ≠ 0
  · obtain ⟨v, hv, hin, ⟨h112, h128, h144, h145, h161, h177⟩, -, hc', hout⟩ := E_cSame_0 xs hx
    have e := key hin h112 h128 h144
    have k2 : seg v 32 16 = w16 xs 32 := seg_at hin 32 (by decide)
    have k3 : seg v 48 16 = w16 xs 48 := seg_at hin 48 (by decide)
    have k5 : seg v 80 16 = w16 xs 80 := seg_at hin 80 (by decide)
    have k6 : seg v 96 16 = w16 xs 96 := seg_at hin 96 (by decide)
    rw [k2, k6, gets_all (lM i2 i6)] at h145
    rw [k5, k3, gets_all (lM i5 i3)] at h161
    rw [h145, h161] at h177
    refine ⟨q_cSame_0, List.mem_of_getElem? (show q_cSame[0]? = some q_cSame_0 from rfl), hx, ?_, ?_⟩
    · show CondHold (vals l_cSame g_cSame_0 xs) _
      rw [hv, hc', e]; exact ⟨ne_t hc, trivial⟩
    · show _ = outs_cSame_0.map (A.ev (vals l_cSame g_cSame_0 xs))
      rw [hv, hout, hs, f_cSame, if_pos hc, h177]; rfl
  · obtain ⟨v, hv, hin, ⟨h112, h128, h144⟩, -, hc', hout⟩ := E_cSame_1 xs hx
    have e := key hin h112 h128 h144
    refine ⟨q_cSame_1, List.mem_of_getElem? (show q_cSame[1]? = some q_cSame_1 from rfl), hx, ?_, ?_⟩
    · show CondHold (vals l_cSame g_cSame_1 xs) _
      rw [hv, hc', e]; exact ⟨ne_f hc, trivial⟩
    · show _ = outs_cSame_1.map (A.ev (vals l_cSame g_cSame_1 xs))
      rw [hv, hout, hs, f_cSame, if_neg hc]

theorem cSame_val (d : Fp) (p q : Pt) : f_cSame (nF d ++ (pL p ++ pL q)) = [if p.X * q.Z = q.X * p.Z ∧ p.Y * q.Z = q.Y * p.Z then 1 else 0] := by
  have l0 := nF_len d
  have lp := pL_len p
  have t : ∀ (x : Fp) (r : List Int), (nF x ++ r).take 16 = nF x := fun x r => take_nF x r
  have s16 : w16 (nF d ++ (pL p ++ pL q)) 16 = nF p.X := by
    unfold w16; rw [List.drop_left' l0]; unfold pL; rw [List.append_assoc]; exact t _ _
  have e32 : (nF d ++ (pL p ++ pL q)).drop 32 = nF p.Y ++ (nF p.Z ++ pL q) := by
    rw [show 32 = 16 + 16 from rfl, ← List.drop_drop, List.drop_left' l0]
    show ((nF p.X ++ (nF p.Y ++ nF p.Z)) ++ pL q).drop 16 = _
    rw [List.append_assoc, List.drop_left' (nF_len _), List.append_assoc]
  have s32 : w16 (nF d ++ (pL p ++ pL q)) 32 = nF p.Y := by unfold w16; rw [e32]; exact t _ _
  have e48 : (nF d ++ (pL p ++ pL q)).drop 48 = nF p.Z ++ pL q := by
    rw [show 48 = 32 + 16 from rfl, ← List.drop_drop, e32, List.drop_left' (nF_len _)]
  have s48 : w16 (nF d ++ (pL p ++ pL q)) 48 = nF p.Z := by unfold w16; rw [e48]; exact t _ _
  have e64 : (nF d ++ (pL p ++ pL q)).drop 64 = nF q.X ++ (nF q.Y ++ nF q.Z) := by
    rw [show 64 = 48 + 16 from rfl, ← List.drop_drop, e48, List.drop_left' (nF_len _)]; rfl
  have s64 : w16 (nF d ++ (pL p ++ pL q)) 64 = nF q.X := by unfold w16; rw [e64]; exact t _ _
  have e80 : (nF d ++ (pL p ++ pL q)).drop 80 = nF q.Y ++ nF q.Z := by
    rw [show 80 = 64 + 16 from rfl, ← List.drop_drop, e64, List.drop_left' (nF_len _)]
  have s80 : w16 (nF d ++ (pL p ++ pL q)) 80 = nF q.Y := by unfold w16; rw [e80]; exact t _ _
  have e96 : (nF d ++ (pL p ++ pL q)).drop 96 = nF q.Z := by
    rw [show 96 = 80 + 16 from rfl, ← List.drop_drop, e80, List.drop_left' (nF_len _)]
  have s96 : w16 (nF d ++ (pL p ++ pL q)) 96 = nF q.Z := by
    unfold w16; rw [e96, List.take_of_length_le (by rw [nF_len]; decide)]
  have hb : ∀ a b : Fp, b2i (nF a == nF b) = if a = b then 1 else 0 := by
    intro a b
    rw [b2i_beq]
    by_cases h : a = b
    · rw [if_pos h, if_pos (by rw [h])]
    · rw [if_neg h, if_neg (fun e => h (nF_inj e))]
  unfold f_cSame cE1 cE2
  rw [s16, s96, s64, s48, s32, s80, FMul_val, FMul_val, FMul_val, FMul_val, hb, hb]
  by_cases h1 : p.X * q.Z = q.X * p.Z
  · rw [if_pos h1, if_pos (by decide)]
    by_cases h2 : p.Y * q.Z = q.Y * p.Z
    · rw [if_pos h2, if_pos ⟨h1, h2⟩]
    · rw [if_neg h2, if_neg (fun e => h2 e.2)]
  · rw [if_neg h1, if_neg (by decide), if_neg (fun e => h1 e.1)]

/-! on the curve -/

def onE (X Y Z T : Fp) : Prop := Y * Y - X * X = dF * (T * T) + Z * Z ∧ X * Y = T * Z
instance (X Y Z T : Fp) : Decidable (onE X Y Z T) := inferInstanceAs (Decidable (_ ∧ _))
def f_onCur (xs : List Int) : List Int := [if onE (pX xs) (pY xs) (pZ xs) (pT xs) then 1 else 0]

def s_onCur : Sem := Sem.of f_onCur LB4 [(0, 1)] (fun xs _ => by
  unfold f_onCur
  by_cases h : onE (pX xs) (pY xs) (pZ xs) (pT xs)
  · rw [if_pos h]; exact ⟨by decide, by decide, trivial⟩
  · rw [if_neg h]; exact ⟨by decide, by decide, trivial⟩)

theorem cov_onCur : Covered l_onCur s_onCur q_onCur := by
  intro xs hx
  have hx : InB LB4 xs := hx
  have key : ∀ {v : Nat → Int}, seg v 0 20 = xs → seg v 20 5 = gets (s_feSqG.f (seg v 0 5)) 0 5 → seg v 25 5 = gets (s_feSqG.f (seg v 5 5)) 0 5 → seg v 30 5 = gets (s_feSqG.f (seg v 10 5)) 0 5 → seg v 35 5 = gets (s_feSqG.f (seg v 15 5)) 0 5 →
      seg v 40 5 = gets (s_Sub.f (seg v 25 5 ++ seg v 20 5)) 0 5 → seg v 45 5 = gets (s_dP.f []) 0 5 → seg v 50 5 = gets (s_feMulG.f (seg v 45 5 ++ seg v 35 5)) 0 5 → seg v 55 5 = gets (s_Add.f (seg v 50 5 ++ seg v 30 5)) 0 5 → v 60 = (s_Equal.f (seg v 40 5 ++ seg v 55 5)).getD 0 0 →
      v 60 = if pY xs * pY xs - pX xs * pX xs = dF * (pT xs * pT xs) + pZ xs * pZ xs then 1 else 0 := by
    intro v hin h20 h25 h30 h35 h40 h45 h50 h55 h60
    obtain ⟨⟨bX, fX⟩, ⟨bY, fY⟩, ⟨bZ, fZ⟩, ⟨bT, fT⟩⟩ := pt_parts hx hin
    obtain ⟨e20, b20⟩ := sqLB bX
    rw [gets5 b20 rfl] at h20; rw [← h20, fX] at e20; rw [← h20] at b20
    obtain ⟨e25, b25⟩ := sqLB bY
    rw [gets5 b25 rfl] at h25; rw [← h25, fY] at e25; rw [← h25] at b25
    obtain ⟨e30, b30⟩ := sqLB bZ
    rw [gets5 b30 rfl] at h30; rw [← h30, fZ] at e30; rw [← h30] at b30
    obtain ⟨e35, b35⟩ := sqLB bT
    rw [gets5 b35 rfl] at h35; rw [← h35, fT] at e35; rw [← h35] at b35
    obtain ⟨e40, b40⟩ := subLB b25 b20
    rw [gets5 b40 rfl] at h40; rw [← h40, e25, e20] at e40; rw [← h40] at b40
    obtain ⟨l, hl, bl, el⟩ := dP_val
    rw [hl, gets5 bl rfl] at h45
    rw [← h45] at bl el
    obtain ⟨e50, b50⟩ := mulLB bl b35
    rw [gets5 b50 rfl] at h50; rw [← h50, el, e35] at e50; rw [← h50] at b50
    obtain ⟨e55, b55⟩ := addLB b50 b30
    rw [gets5 b55 rfl] at h55; rw [← h55, e50, e30] at e55; rw [← h55] at b55
    rw [eqLB b40 b55, e40, e55, List.getD_cons_zero] at h60
    exact h60
  have hs : s_onCur.f xs = f_onCur xs := rfl
  by_cases hc : pY xs * pY xs - pX xs * pX xs = dF * (pT xs * pT xs) + pZ xs * pZ xs
  · obtain ⟨v, hv, hin, ⟨h20, h25, h30, h35, h40, h45, h50, h55, h60, h61, h62, h67, h72, h73⟩, -, hc', hout⟩ := E_onCur_1 xs hx
    have e := key hin h20 h25 h30 h35 h40 h45 h50 h55 h60
    obtain ⟨⟨bX, fX⟩, ⟨bY, fY⟩, ⟨bZ, fZ⟩, ⟨bT, fT⟩⟩ := pt_parts hx hin
    rw [if_pos hc] at e
    rw [e] at h61
    have h61 : v 61 = 0 := h61
    have s10 : seg v 0 10 = seg v 0 5 ++ seg v 5 5 := seg_add v 5 5 0
    obtain ⟨e62, b62⟩ := mulLB bX bY
    rw [s10, gets5 b62 rfl] at h62; rw [← h62, fX, fY] at e62; rw [← h62] at b62
    obtain ⟨e67, b67⟩ := mulLB bT bZ
    rw [gets5 b67 rfl] at h67; rw [← h67, fT, fZ] at e67; rw [← h67] at b67
    have s62 : seg v 62 10 = seg v 62 5 ++ seg v 67 5 := seg_add v 5 5 62
    rw [s62, eqLB b62 b67, e62, e67, List.getD_cons_zero] at h72
    refine ⟨q_onCur_1, List.mem_of_getElem? (show q_onCur[1]? = some q_onCur_1 from rfl), hx, ?_, ?_⟩
    · show CondHold (vals l_onCur g_onCur_1 xs) _
      rw [hv, hc', h61]; exact ⟨rfl, trivial⟩
    · show _ = outs_onCur_1.map (A.ev (vals l_onCur g_onCur_1 xs))
      rw [hv, hout, hs, h73, eql_1 h72]
      unfold f_onCur
      by_cases h2 : pX xs * pY xs = pT xs * pZ xs
      · rw [if_pos h2, if_pos ⟨hc, h2⟩]
      · rw [if_neg h2, if_neg (fun e => h2 e.2)]
  · obtain ⟨v, hv, hin, ⟨h20, h25, h30, h35, h40, h45, h50, h55, h60, h61⟩, -, hc', hout⟩ := E_onCur_0 xs hx
    have e := key hin h20 h25 h30 h35 h40 h45 h50 h55 h60
    rw [if_neg hc] at e
    rw [e] at h61
    have h61 : v 61 = 1 := h61
    refine ⟨q_onCur_0, List.mem_of_getElem? (show q_onCur[0]? = some q_onCur_0 from rfl), hx, ?_, ?_⟩
    · show CondHold (vals l_onCur g_onCur_0 xs) _
      rw [hv, hc', h61]; exact ⟨rfl, trivial⟩
    · show _ = outs_onCur_0.map (A.ev (vals l_onCur g_onCur_0 xs))
      rw [hv, hout, hs]
      unfold f_onCur
      rw [if_neg (fun e => hc e.1)]

/-! small ones -/

theorem None_val : s_None.f [] = [1, 1] := by
  obtain ⟨v, -, -, ⟨h0, h1⟩, -, hf⟩ := E_None [] trivial
  rw [Small_val (by decide) (by decide)] at h0 h1
  rw [hf, h0, h1]; rfl

end Go.X

set_option maxRecDepth 20000
namespace Go.X

/-! ### multiples of points -/

def timF (c e p : List Int) : Nat → List Int → List Int
  | 0, o => o
  | n + 1, o => timF c e p n (if bitOf e n = 1 then s_cPlus.f (c ++ (s_cPlus.f (c ++ (o ++ o)) ++ p)) else s_cPlus.f (c ++ (o ++ o)))

def f_timl (xs : List Int) : List Int := timF (xs.take 16) ((xs.drop 16).take 16) ((xs.drop 32).take 48) (xs.getD 80 0 + 1).toNat (xs.drop 81)

theorem cPlus_bd {c o p : List Int} (hc : InB (WB 16) c) (ho : InB (WB 48) o) (hp : InB (WB 48) p) : InB (WB 48) (s_cPlus.f (c ++ (o ++ p))) :=
  s_cPlus.ok _ _ (show s_cPlus.bt (WB 112) = some (WB 48) by kernel_rfl) _ (InB.append (a := WB 16) (b := WB 96) hc (InB.append (a := WB 48) (b := WB 48) ho hp))

theorem timF_bd {c e p : List Int} (hc : InB (WB 16) c) (hp : InB (WB 48) p) : ∀ (n : Nat) {o : List Int}, InB (WB 48) o → InB (WB 48) (timF c e p n o)
  | 0, _, h => h
  | n + 1, o, h => by
    have h2 := cPlus_bd hc h h
    show InB (WB 48) (timF c e p n (if bitOf e n = 1 then s_cPlus.f (c ++ (s_cPlus.f (c ++ (o ++ o)) ++ p)) else s_cPlus.f (c ++ (o ++ o))))
    by_cases hb : bitOf e n = 1
    · rw [if_pos hb]; exact timF_bd hc hp n (cPlus_bd hc h2 hp)
    · rw [if_neg hb]; exact timF_bd hc hp n h2

abbrev bTl : Bd := WB 16 ++ (WB 16 ++ (WB 48 ++ ([(-1, 255)] ++ WB 48)))

theorem bTl_split {xs : List Int} (h : InB bTl xs) : InB (WB 16) (xs.take 16) ∧ InB (WB 16) ((xs.drop 16).take 16) ∧ InB (WB 48) ((xs.drop 32).take 48) ∧ InB (WB 48) (xs.drop 81) := by
  obtain ⟨h1, h2⟩ := InB.split h
  obtain ⟨h2, h3⟩ := InB.split h2
  obtain ⟨h3, h4⟩ := InB.split h3
  obtain ⟨-, h5⟩ := InB.split h4
  rw [List.drop_drop] at h3 h5
  rw [List.drop_drop, List.drop_drop] at h5
  exact ⟨h1, h2, h3, h5⟩

def s_timl : Sem := Sem.of f_timl bTl (WB 48) (fun _ h => by
  obtain ⟨h1, -, h3, h4⟩ := bTl_split h
  exact timF_bd h1 h3 _ h4)

end Go.X

set_option maxRecDepth 20000
namespace Go.X
noncomputable section
def g_timl_0 : List (Nat × Ins) := [(129, .op2 .geq .i64 (.v 80) (.l 0))]
def outs_timl_0 : List A := (vs 81 48)
def q_timl_0 : Bd × List (Nat × Ins) × List Asm × Bool × List A := (((bs 80 0 4294967295) ++ [((-1), (-1))] ++ (bs 48 0 4294967295)), g_timl_0, [.cond (.v 129) false], true, outs_timl_0)
def g_timl_1 : List (Nat × Ins) := (List.flatten [[(228, .op2 .sub .i64 (.v 80) (.l 1))], apps 2 ((vs 0 16) ++ (vs 130 48) ++ (vs 32 48)) 180 48, [(179, .op2 .eql .i64 (.v 178) (.l 1)), (178, .app 0 ((vs 16 16) ++ [(.v 80)]) 0)], apps 2 ((vs 0 16) ++ (vs 81 48) ++ (vs 81 48)) 130 48, [(129, .op2 .geq .i64 (.v 80) (.l 0))]])
def outs_timl_1 : List A := ((vs 0 80) ++ [(.v 228)] ++ (vs 180 48))
def q_timl_1 : Bd × List (Nat × Ins) × List Asm × Bool × List A := (((bs 80 0 4294967295) ++ [(0, 255)] ++ (bs 48 0 4294967295)), g_timl_1, [.pre 2 ((vs 0 16) ++ (vs 130 48) ++ (vs 32 48)), .cond (.v 179) true, .pre 0 ((vs 16 16) ++ [(.v 80)]), .pre 2 ((vs 0 16) ++ (vs 81 48) ++ (vs 81 48)), .cond (.v 129) true], false, outs_timl_1)
def g_timl_2 : List (Nat × Ins) := ([(180, .op2 .sub .i64 (.v 80) (.l 1)), (179, .op2 .eql .i64 (.v 178) (.l 1)), (178, .app 0 ((vs 16 16) ++ [(.v 80)]) 0)] ++ (apps 2 ((vs 0 16) ++ (vs 81 48) ++ (vs 81 48)) 130 48) ++ [(129, .op2 .geq .i64 (.v 80) (.l 0))])
def outs_timl_2 : List A := ((vs 0 80) ++ [(.v 180)] ++ (vs 130 48))
def q_timl_2 : Bd × List (Nat × Ins) × List Asm × Bool × List A := (((bs 80 0 4294967295) ++ [(0, 255)] ++ (bs 48 0 4294967295)), g_timl_2, [.cond (.v 179) false, .pre 0 ((vs 16 16) ++ [(.v 80)]), .pre 2 ((vs 0 16) ++ (vs 81 48) ++ (vs 81 48)), .cond (.v 129) true], false, outs_timl_2)
def q_timl := [q_timl_0, q_timl_1, q_timl_2]
abbrev l_cTimes : List Sem := [s_Bit, s_None, s_cPlus, s_timl]
def g_cTimes : List (Nat × Ins) := ((apps 3 (List.flatten [vs 0 80, [(.l 255)], ls 0 16, [(.v 80)], ls 0 15, [(.v 81)], ls 0 15]) 82 48) ++ [(81, .app 1 [] 1), (80, .app 1 [] 0)])
def outs_cTimes : List A := (vs 82 48)
def s_cTimes : Sem := Sem.st l_cTimes g_cTimes 80 130 outs_cTimes (bs 80 0 4294967295) (bs 48 0 4294967295) (by kernel_rfl)

theorem E_timl_0 (xs : List Int) (hx : InB ((bs 80 0 4294967295) ++ [((-1), (-1))] ++ (bs 48 0 4294967295)) xs) : ∃ v : Nat → Int, vals l_cTimes g_timl_0 xs = v ∧ seg v 0 129 = xs ∧ ((v 129 = op2 .geq .i64 (v 80) 0)) ∧ (True) ∧ (CondHold v [.cond (.v 129) false] = ((v 129 != 0) = false ∧ True)) ∧ outs_timl_0.map (A.ev v) = (seg v 81 48) :=
  Eq.mp (by kernel_rfl) (runQ (q := [.cond (.v 129) false]) (o := outs_timl_0) (l := l_cTimes) (g := g_timl_0) (nin := 129) (top := 130) (by kernel_rfl) hx)
theorem E_timl_1 (xs : List Int) (hx : InB ((bs 80 0 4294967295) ++ [(0, 255)] ++ (bs 48 0 4294967295)) xs) : ∃ v : Nat → Int, vals l_cTimes g_timl_1 xs = v ∧ seg v 0 129 = xs ∧ ((v 129 = op2 .geq .i64 (v 80) 0) ∧ (seg v 130 48 = gets (s_cPlus.f (seg v 0 16 ++ seg v 81 48 ++ seg v 81 48)) 0 48) ∧ (v 178 = (s_Bit.f (seg v 16 16 ++ [v 80])).getD 0 0) ∧ (v 179 = op2 .eql .i64 (v 178) 1) ∧ (seg v 180 48 = gets (s_cPlus.f (seg v 0 16 ++ seg v 130 48 ++ seg v 32 48)) 0 48) ∧ (v 228 = (v 80) - 1)) ∧ (True) ∧ (CondHold v [.pre 2 ((vs 0 16) ++ (vs 130 48) ++ (vs 32 48)), .cond (.v 179) true, .pre 0 ((vs 16 16) ++ [(.v 80)]), .pre 2 ((vs 0 16) ++ (vs 81 48) ++ (vs 81 48)), .cond (.v 129) true] = ((v 179 != 0) = true ∧ ((v 129 != 0) = true ∧ True))) ∧ outs_timl_1.map (A.ev v) = (seg v 0 80 ++ [v 228] ++ seg v 180 48) :=
  Eq.mp (by kernel_rfl) (runQ (q := [.pre 2 ((vs 0 16) ++ (vs 130 48) ++ (vs 32 48)), .cond (.v 179) true, .pre 0 ((vs 16 16) ++ [(.v 80)]), .pre 2 ((vs 0 16) ++ (vs 81 48) ++ (vs 81 48)), .cond (.v 129) true]) (o := outs_timl_1) (l := l_cTimes) (g := g_timl_1) (nin := 129) (top := 229) (by kernel_rfl) hx)
theorem E_timl_2 (xs : List Int) (hx : InB ((bs 80 0 4294967295) ++ [(0, 255)] ++ (bs 48 0 4294967295)) xs) : ∃ v : Nat → Int, vals l_cTimes g_timl_2 xs = v ∧ seg v 0 129 = xs ∧ ((v 129 = op2 .geq .i64 (v 80) 0) ∧ (seg v 130 48 = gets (s_cPlus.f (seg v 0 16 ++ seg v 81 48 ++ seg v 81 48)) 0 48) ∧ (v 178 = (s_Bit.f (seg v 16 16 ++ [v 80])).getD 0 0) ∧ (v 179 = op2 .eql .i64 (v 178) 1) ∧ (v 180 = (v 80) - 1)) ∧ (True) ∧ (CondHold v [.cond (.v 179) false, .pre 0 ((vs 16 16) ++ [(.v 80)]), .pre 2 ((vs 0 16) ++ (vs 81 48) ++ (vs 81 48)), .cond (.v 129) true] = ((v 179 != 0) = false ∧ ((v 129 != 0) = true ∧ True))) ∧ outs_timl_2.map (A.ev v) = (seg v 0 80 ++ [v 180] ++ seg v 130 48) :=
  Eq.mp (by kernel_rfl) (runQ (q := [.cond (.v 179) false, .pre 0 ((vs 16 16) ++ [(.v 80)]), .pre 2 ((vs 0 16) ++ (vs 81 48) ++ (vs 81 48)), .cond (.v 129) true]) (o := outs_timl_2) (l := l_cTimes) (g := g_timl_2) (nin := 129) (top := 181) (by kernel_rfl) hx)
theorem E_cTimes (xs : List Int) (hx : InB (bs 80 0 4294967295) xs) : ∃ v : Nat → Int, vals l_cTimes g_cTimes xs = v ∧ seg v 0 80 = xs ∧ ((seg v 80 2 = gets (s_None.f ([] : List Int)) 0 2) ∧ (seg v 82 48 = gets (s_timl.f (seg v 0 80 ++ [255, 0, 0, 0, 0, 0, 0, 0, 0, 0, 0, 0, 0, 0, 0, 0, 0, v 80, 0, 0, 0, 0, 0, 0, 0, 0, 0, 0, 0, 0, 0, 0, 0, v 81, 0, 0, 0, 0, 0, 0, 0, 0, 0, 0, 0, 0, 0, 0, 0])) 0 48)) ∧ (True) ∧ s_cTimes.f xs = (seg v 82 48) :=
  Eq.mp (by kernel_rfl) (runE (s := s_cTimes) (o := outs_cTimes) (l := l_cTimes) (g := g_cTimes) (nin := 80) (top := 130) (by kernel_rfl) hx (by kernel_rfl))

end
end Go.X

set_option maxRecDepth 20000
namespace Go.X

theorem app3 (a b c : List Int) : a ++ b ++ c = a ++ (b ++ c) := List.append_assoc a b c

theorem f_timl_app {c e p o : List Int} {i : Int} (hc : c.length = 16) (he : e.length = 16) (hp : p.length = 48) : f_timl (c ++ (e ++ (p ++ (i :: o)))) = timF c e p (i + 1).toNat o := by
  have h1 : (c ++ (e ++ (p ++ (i :: o)))).take 16 = c := List.take_left' hc
  have h2 : (c ++ (e ++ (p ++ (i :: o)))).drop 16 = e ++ (p ++ (i :: o)) := List.drop_left' hc
  have h3 : (e ++ (p ++ (i :: o))).take 16 = e := List.take_left' he
  have h4 : (c ++ (e ++ (p ++ (i :: o)))).drop 32 = p ++ (i :: o) := by
    rw [show 32 = 16 + 16 from rfl, ← List.drop_drop, h2]; exact List.drop_left' he
  have h5 : (p ++ (i :: o)).take 48 = p := List.take_left' hp
  have h6 : (c ++ (e ++ (p ++ (i :: o)))).drop 80 = i :: o := by
    rw [show 80 = 32 + 48 from rfl, ← List.drop_drop, h4]; exact List.drop_left' hp
  have h7 : (c ++ (e ++ (p ++ (i :: o)))).drop 81 = o := by
    rw [show 81 = 80 + 1 from rfl, ← List.drop_drop, h6]; rfl
  have h8 : (c ++ (e ++ (p ++ (i :: o)))).getD 80 0 = i := by
    have : (c ++ (e ++ (p ++ (i :: o)))).getD 80 0 = ((c ++ (e ++ (p ++ (i :: o)))).drop 80).getD 0 0 := by
      simp [List.getD_eq_getElem?_getD, List.getElem?_drop]
    rw [this, h6]; rfl
  unfold f_timl
  rw [h1, h2, h3, h4, h5, h7, h8]

theorem timl_in {c e p o : List Int} {i l h : Int} (hc : InB (WB 16) c) (he : InB (WB 16) e) (hp : InB (WB 48) p) (hi : l ≤ i ∧ i ≤ h) (ho : InB (WB 48) o) :
    InB (WB 16 ++ (WB 16 ++ (WB 48 ++ ([(l, h)] ++ WB 48)))) (c ++ (e ++ (p ++ (i :: o)))) :=
  InB.append hc (InB.append he (InB.append hp (InB.append (a := [(l, h)]) (x := [i]) ⟨hi.1, hi.2, trivial⟩ ho)))

theorem timl_dec {xs : List Int} (h : InB bTl xs) : ∃ c e p i o, xs = c ++ (e ++ (p ++ (i :: o))) ∧ InB (WB 16) c ∧ InB (WB 16) e ∧ InB (WB 48) p ∧ (-1 ≤ i ∧ i ≤ 255) ∧ InB (WB 48) o := by
  obtain ⟨h1, h2⟩ := InB.split h
  obtain ⟨h2, h3⟩ := InB.split h2
  obtain ⟨h3, h4⟩ := InB.split h3
  have h1 : InB (WB 16) (xs.take 16) := h1
  have h2 : InB (WB 16) ((xs.drop 16).take 16) := h2
  have h3 : InB (WB 48) (((xs.drop 16).drop 16).take 48) := h3
  have h4 : InB ([(-1, 255)] ++ WB 48) (((xs.drop 16).drop 16).drop 48) := h4
  generalize hz : ((xs.drop 16).drop 16).drop 48 = z at *
  match z, h4 with
  | i :: o, h4 =>
    refine ⟨xs.take 16, (xs.drop 16).take 16, ((xs.drop 16).drop 16).take 48, i, o, ?_, h1, h2, h3, ⟨h4.1, h4.2.1⟩, h4.2.2⟩
    rw [← hz, List.take_append_drop, List.take_append_drop, List.take_append_drop]

theorem segs_timl {v : Nat → Int} {c e p o : List Int} {i : Int} (h : seg v 0 129 = c ++ (e ++ (p ++ (i :: o)))) (hc : c.length = 16) (he : e.length = 16) (hp : p.length = 48) :
    seg v 0 16 = c ∧ seg v 16 16 = e ∧ seg v 32 48 = p ∧ v 80 = i ∧ seg v 81 48 = o := by
  obtain ⟨h1, h2⟩ := seg_two (n := 16) (m := 113) h hc
  obtain ⟨h2, h3⟩ := seg_two (n := 16) (m := 97) h2 he
  obtain ⟨h3, h4⟩ := seg_two (n := 48) (m := 49) h3 hp
  have e3 : seg v 80 49 = v 80 :: seg v 81 48 := rfl
  have h4 : seg v 80 49 = i :: o := h4
  rw [e3] at h4
  exact ⟨h1, h2, h3, (List.cons.inj h4).1, (List.cons.inj h4).2⟩

theorem lcov_timl : LCovered l_cTimes s_timl q_timl := by
  refine ⟨fun xs => (xs.getD 80 0 + 1).toNat, ?_⟩
  intro xs hx
  obtain ⟨c, e, p, i, o, rfl, hc, he, hp, hi, ho⟩ := timl_dec hx
  have lc : c.length = 16 := hc.len
  have le : e.length = 16 := he.len
  have lp : p.length = 48 := hp.len
  have hs : s_timl.f (c ++ (e ++ (p ++ (i :: o)))) = timF c e p (i + 1).toNat o := f_timl_app lc le lp
  have hgd : ∀ (j : Int) (o' : List Int), (c ++ (e ++ (p ++ (j :: o')))).getD 80 0 = j := by
    intro j o'
    have : c ++ (e ++ (p ++ (j :: o'))) = (c ++ (e ++ p)) ++ (j :: o') := by rw [List.append_assoc, List.append_assoc]
    have l80 : (c ++ (e ++ p)).length = 80 := by rw [List.length_append, List.length_append, lc, le, lp]
    rw [this, List.getD_eq_getElem?_getD, List.getElem?_append_right (by rw [l80]; decide), l80]
    rfl
  by_cases h0 : i < 0
  · obtain ⟨v, hv, hin, h129, -, hcn, hout⟩ := E_timl_0 (c ++ (e ++ (p ++ (i :: o)))) (timl_in (l := -1) (h := -1) hc he hp (by omega) ho)
    obtain ⟨-, -, -, e80, e81⟩ := segs_timl hin lc le lp
    rw [e80, geq0, decide_eq_false (by omega)] at h129
    refine ⟨q_timl_0, List.mem_of_getElem? (show q_timl[0]? = some q_timl_0 from rfl), timl_in (l := -1) (h := -1) hc he hp (by omega) ho, ?_, ?_⟩
    · show CondHold (vals l_cTimes g_timl_0 _) _
      rw [hv]
      refine hcn.symm ▸ ⟨?_, trivial⟩
      rw [h129]; rfl
    · show s_timl.f _ = outs_timl_0.map (A.ev (vals l_cTimes g_timl_0 _))
      rw [hv, hout, e81, hs, show i = -1 from by omega]; rfl
  · have hn : ((i.toNat : Nat) : Int) = i := by omega
    have hn1 : (i + 1).toNat = i.toNat + 1 := by omega
    have b1 := cPlus_bd hc ho ho
    have b2 := cPlus_bd hc b1 hp
    by_cases hb : bitOf e i = 1
    · obtain ⟨v, hv, hin, ⟨h129, h130, h178, h179, h180, h228⟩, -, hcn, hout⟩ := E_timl_1 (c ++ (e ++ (p ++ (i :: o)))) (timl_in (l := 0) (h := 255) hc he hp (by omega) ho)
      obtain ⟨e0, e16, e32, e80, e81⟩ := segs_timl hin lc le lp
      have e00 : seg v 0 80 = c ++ (e ++ p) := by
        have a1 : seg v 0 80 = seg v 0 16 ++ seg v 16 64 := seg_add v 16 64 0
        have a2 : seg v 16 64 = seg v 16 16 ++ seg v 32 48 := seg_add v 16 48 16
        rw [a1, a2, e0, e16, e32]
      rw [e80, geq0, decide_eq_true (by omega)] at h129
      rw [e16, e80] at h178
      have h178 : v 178 = bitOf e i := h178
      rw [h178, hb, eql_i] at h179
      rw [e0, e81, app3, gets_all (show _ = 48 from b1.len)] at h130
      rw [h130, e0, e32, app3, gets_all (show _ = 48 from b2.len)] at h180
      have eo : outs_timl_1.map (A.ev (vals l_cTimes g_timl_1 (c ++ (e ++ (p ++ (i :: o)))))) = c ++ (e ++ (p ++ ((i - 1) :: s_cPlus.f (c ++ (s_cPlus.f (c ++ (o ++ o)) ++ p))))) := by
        rw [hv, hout, e00, h228, e80, h180]; simp only [List.append_assoc]; rfl
      refine ⟨q_timl_1, List.mem_of_getElem? (show q_timl[1]? = some q_timl_1 from rfl), timl_in (l := 0) (h := 255) hc he hp (by omega) ho, ?_, ?_⟩
      · show CondHold (vals l_cTimes g_timl_1 _) _
        rw [hv]
        refine hcn.symm ▸ ⟨?_, ?_, trivial⟩
        · rw [h179]; rfl
        · rw [h129]; rfl
      · show InB s_timl.bi (outs_timl_1.map (A.ev (vals l_cTimes g_timl_1 _))) ∧ ((outs_timl_1.map (A.ev (vals l_cTimes g_timl_1 _))).getD 80 0 + 1).toNat < _ ∧ s_timl.f _ = s_timl.f (outs_timl_1.map (A.ev (vals l_cTimes g_timl_1 _)))
        rw [eo]
        refine ⟨timl_in (l := -1) (h := 255) hc he hp (by omega) b2, ?_, ?_⟩
        · show _ < ((c ++ (e ++ (p ++ (i :: o)))).getD 80 0 + 1).toNat
          rw [hgd, hgd]; omega
        · rw [hs, hn1]
          have : s_timl.f (c ++ (e ++ (p ++ ((i - 1) :: s_cPlus.f (c ++ (s_cPlus.f (c ++ (o ++ o)) ++ p)))))) = timF c e p (i - 1 + 1).toNat _ := f_timl_app lc le lp
          rw [this, show i - 1 + 1 = i from by omega]
          show timF c e p i.toNat (if bitOf e (i.toNat : Nat) = 1 then _ else _) = _
          rw [hn, if_pos hb]
    · obtain ⟨v, hv, hin, ⟨h129, h130, h178, h179, h180⟩, -, hcn, hout⟩ := E_timl_2 (c ++ (e ++ (p ++ (i :: o)))) (timl_in (l := 0) (h := 255) hc he hp (by omega) ho)
      obtain ⟨e0, e16, e32, e80, e81⟩ := segs_timl hin lc le lp
      have e00 : seg v 0 80 = c ++ (e ++ p) := by
        have a1 : seg v 0 80 = seg v 0 16 ++ seg v 16 64 := seg_add v 16 64 0
        have a2 : seg v 16 64 = seg v 16 16 ++ seg v 32 48 := seg_add v 16 48 16
        rw [a1, a2, e0, e16, e32]
      rw [e80, geq0, decide_eq_true (by omega)] at h129
      rw [e16, e80] at h178
      have h178 : v 178 = bitOf e i := h178
      have hb' : (bitOf e i == 1) = false := by rw [beq_eq_false_iff_ne]; exact hb
      rw [h178, eql_i, hb'] at h179
      rw [e0, e81, app3, gets_all (show _ = 48 from b1.len)] at h130
      have eo : outs_timl_2.map (A.ev (vals l_cTimes g_timl_2 (c ++ (e ++ (p ++ (i :: o)))))) = c ++ (e ++ (p ++ ((i - 1) :: s_cPlus.f (c ++ (o ++ o))))) := by
        rw [hv, hout, e00, h180, e80, h130]; simp only [List.append_assoc]; rfl
      refine ⟨q_timl_2, List.mem_of_getElem? (show q_timl[2]? = some q_timl_2 from rfl), timl_in (l := 0) (h := 255) hc he hp (by omega) ho, ?_, ?_⟩
      · show CondHold (vals l_cTimes g_timl_2 _) _
        rw [hv]
        refine hcn.symm ▸ ⟨?_, ?_, trivial⟩
        · rw [h179]; rfl
        · rw [h129]; rfl
      · show InB s_timl.bi (outs_timl_2.map (A.ev (vals l_cTimes g_timl_2 _))) ∧ ((outs_timl_2.map (A.ev (vals l_cTimes g_timl_2 _))).getD 80 0 + 1).toNat < _ ∧ s_timl.f _ = s_timl.f (outs_timl_2.map (A.ev (vals l_cTimes g_timl_2 _)))
        rw [eo]
        refine ⟨timl_in (l := -1) (h := 255) hc he hp (by omega) b1, ?_, ?_⟩
        · show _ < ((c ++ (e ++ (p ++ (i :: o)))).getD 80 0 + 1).toNat
          rw [hgd, hgd]; omega
        · rw [hs, hn1]
          have : s_timl.f (c ++ (e ++ (p ++ ((i - 1) :: s_cPlus.f (c ++ (o ++ o)))))) = timF c e p (i - 1 + 1).toNat _ := f_timl_app lc le lp
          rw [this, show i - 1 + 1 = i from by omega]
          show timF c e p i.toNat (if bitOf e (i.toNat : Nat) = 1 then _ else _) = _
          rw [hn, if_neg hb]

/-! the values -/

def Pt.tim (d : Fp) (p : Pt) (e : List Int) : Nat → Pt → Pt
  | 0, o => o
  | n + 1, o => Pt.tim d p e n (if bitOf e n = 1 then ((o.plus d o).plus d p) else o.plus d o)

theorem timF_val (d : Fp) (p : Pt) (e : List Int) : ∀ (n : Nat) (o : Pt), timF (nF d) e (pL p) n (pL o) = pL (Pt.tim d p e n o)
  | 0, _ => rfl
  | n + 1, o => by
    show timF (nF d) e (pL p) n (if bitOf e n = 1 then s_cPlus.f (nF d ++ (s_cPlus.f (nF d ++ (pL o ++ pL o)) ++ pL p)) else s_cPlus.f (nF d ++ (pL o ++ pL o))) = pL (Pt.tim d p e n (if bitOf e n = 1 then ((o.plus d o).plus d p) else o.plus d o))
    rw [cPlus_val, cPlus_val]
    by_cases h : bitOf e n = 1
    · rw [if_pos h, if_pos h, timF_val d p e n]
    · rw [if_neg h, if_neg h, timF_val d p e n]

theorem tim_ok {d : Fp} (hd : NSq d) {p : Pt} (hp : p.ok d) (e : List Int) : ∀ (n : Nat) {o : Pt}, o.ok d → (Pt.tim d p e n o).ok d
  | 0, _, h => h
  | n + 1, o, h => by
    have h2 := (Pt.plus_ok hd h h).1
    show (Pt.tim d p e n (if bitOf e n = 1 then ((o.plus d o).plus d p) else o.plus d o)).ok d
    by_cases hb : bitOf e n = 1
    · rw [if_pos hb]; exact tim_ok hd hp e n (Pt.plus_ok hd h2 hp).1
    · rw [if_neg hb]; exact tim_ok hd hp e n h2

/-- so many times a point -/
def Pt.mul (d : Fp) (e : List Int) (p : Pt) : Pt := Pt.tim d p e 256 Pt.none

theorem mul_ok {d : Fp} (hd : NSq d) {p : Pt} (hp : p.ok d) (e : List Int) : (Pt.mul d e p).ok d := tim_ok hd hp e 256 (Pt.none_ok d)

theorem pL_none : pL Pt.none = [0, 0, 0, 0, 0, 0, 0, 0, 0, 0, 0, 0, 0, 0, 0, 0, 1, 0, 0, 0, 0, 0, 0, 0, 0, 0, 0, 0, 0, 0, 0, 0, 1, 0, 0, 0, 0, 0, 0, 0, 0, 0, 0, 0, 0, 0, 0, 0] := by
  show nF 0 ++ (nF 1 ++ nF 1) = _
  rw [nF_zero, nF_one]; rfl

theorem cTimes_val (d : Fp) (p : Pt) {e : List Int} (he : InB (WB 16) e) : s_cTimes.f (nF d ++ (e ++ pL p)) = pL (Pt.mul d e p) := by
  obtain ⟨v, -, hin, ⟨h80, h82⟩, -, hf⟩ := E_cTimes (nF d ++ (e ++ pL p)) (InB.append (a := WB 16) (b := WB 64) (nF_in _) (InB.append (a := WB 16) (b := WB 48) he (pL_in _)))
  rw [None_val] at h80
  have a0 : v 80 = 1 := (List.cons.inj h80).1
  have a1 : v 81 = 1 := (List.cons.inj (List.cons.inj h80).2).1
  have ea : seg v 0 80 ++ [255, 0, 0, 0, 0, 0, 0, 0, 0, 0, 0, 0, 0, 0, 0, 0, 0, v 80, 0, 0, 0, 0, 0, 0, 0, 0, 0, 0, 0, 0, 0, 0, 0, v 81, 0, 0, 0, 0, 0, 0, 0, 0, 0, 0, 0, 0, 0, 0, 0] = nF d ++ (e ++ (pL p ++ ((255 : Int) :: pL Pt.none))) := by
    rw [hin, a0, a1, pL_none]; simp only [List.append_assoc]
  have hp : s_timl.f (nF d ++ (e ++ (pL p ++ ((255 : Int) :: pL Pt.none)))) = timF (nF d) e (pL p) (255 + 1 : Int).toNat (pL Pt.none) := f_timl_app (nF_len d) he.len (pL_len p)
  rw [ea, hp, show (255 + 1 : Int).toNat = 256 from rfl, timF_val, gets_all (pL_len _)] at h82
  rw [hf, h82]; rfl

end Go.X
