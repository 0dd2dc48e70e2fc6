import PyProof.Rows.All
import Wide.All
import OpenK.AllK
import Wide.FinOn
import PySem.Challenge.RW_jv0022_01
set_option Elab.async false
namespace Mine
noncomputable section
open Lean.Grind

theorem key_x_cert {K : Type} [CommRing K] (x1 y1 x2 y2 x3 y3 d : K) :
  ((x1*y2+y1*x2)*(1-d*x1*x2*y1*y2)*y3+(y1*y2+x1*x2)*(1+d*x1*x2*y1*y2)*x3) * ((1+d*x2*x3*y2*y3)*(1-d*x2*x3*y2*y3)+d*x1*(x2*y3+y2*x3)*y1*(y2*y3+x2*x3))
  = (x1*((y2*y3+x2*x3)*(1+d*x2*x3*y2*y3))+y1*((x2*y3+y2*x3)*(1-d*x2*x3*y2*y3))) * ((1+d*x1*x2*y1*y2)*(1-d*x1*x2*y1*y2)+d*(x1*y2+y1*x2)*x3*(y1*y2+x1*x2)*y3)
    + ((x2*y2*d*(x2*(y2*(x2*(x3*(x1*(y2*(y3*d*(-x2*x3 - y2*y3)) + (-x3*x3 - 1)) + y1*y2*y3*d*(x2*y3 + y2*x3)) + y1*y3*(y3*y3 - 1)) + y2*(x1*(y3*(y3*y3 - 1)) + y1*x3*(-x3*x3 - 1))) + x2*x2*x3*y3*(-x1*x3 + y1*y3)) + y2*y2*y2*x3*y3*(x1*y3 - y1*x3)))*(y1*y1 - x1*x1 - (1 + d*x1*x1*y1*y1))
    + (x3*(y3*(x1*(x2*(d*(y2*(y1*(x3*(y3*(d*(x1*(x2*x3 - y2*y3) + y1*(-x2*y3 + y2*x3))) + (-x1*y2 - y1*x2)) + y3*(-x1*x2 - y1*y2)) + x1*(x1*(x2*x3 + y2*y3)) + x2*x3 + y2*y3) + x3*y3*(x3*(x1*x1 + (-y1*y1 + 1)) + x1*y1*y3)) + y3*(-x1*x1 + y1*y1 - 1) + x1*y1*x3) + y2*(x3*(y3*(d*(y3*(x1*x1 + (-y1*y1 + 1)) + x1*y1*x3)) + x1*x1 + (-y1*y1 + 1)) - x1*y1*y3)) + y1*(x2*(x3*(d*(y1*(y1*(y2*y2 - y3*y3)) + (-y2*y2 + y3*y3)) + (-y1*y1 + 1)) + x2*y2*y3*d*(y1*y1 - 1)) + y2*y3*(y1*(y1*(-x3*x3*d + 1)) + x3*x3*d - 1))) + x1*(x2*(x3*(x3*(x1*x1 + (-y1*y1 + 1))) + x1*x1 + (-y1*y1 + 1)) + x1*y1*y2*(x3*x3 + 1)) + y1*y2*(y1*(y1*(-x3*x3 - 1)) + x3*x3 + 1)) + y3*(x1*(y2*(y3*(y3*(-x1*x1 + y1*y1 - 1)) + x1*x1 + (-y1*y1 + 1)) + x1*y1*x2*(-y3*y3 + 1)) + y1*x2*(y1*(y1*(y3*y3 - 1)) + (-y3*y3 + 1))))*(y2*y2 - x2*x2 - (1 + d*x2*x2*y2*y2))
    + (x1*(x2*(y1*(y2*(x1*(x2*(x3*(-d - 1)) + y2*y3*(d + 1)) + y1*(x2*(y3*(d + 1)) + y2*x3*(-d - 1))) + x1*(y3*(-x2*x2 - 1)) + y1*x3*(x2*x2 + 1)) + x3*(x1*(x1*(-x2*x2 + y2*y2 - 1)) + (-x2*x2 + y2*y2 - 1)) + x2*y2*y3*(-x1*x1 - 1)) + y2*(y3*(y2*(y2*(x1*x1 + (-y1*y1 + 1))) + (-x1*x1 + y1*y1 - 1)) + x1*y1*x3*(y2*y2 - 1))) + y1*(x2*(y3*(y1*(y1*(x2*x2 + (-y2*y2 + 1))) + (-x2*x2 + y2*y2 - 1)) + x2*y2*x3*(y1*y1 - 1)) + y2*x3*(y1*(y1*(-y2*y2 + 1)) + y2*y2 - 1)))*(y3*y3 - x3*x3 - (1 + d*x3*x3*y3*y3))) := by
  grind
theorem key_y_cert {K : Type} [CommRing K] (x1 y1 x2 y2 x3 y3 d : K) :
  ((y1*y2+x1*x2)*(1+d*x1*x2*y1*y2)*y3+(x1*y2+y1*x2)*(1-d*x1*x2*y1*y2)*x3) * ((1+d*x2*x3*y2*y3)*(1-d*x2*x3*y2*y3)-d*x1*(x2*y3+y2*x3)*y1*(y2*y3+x2*x3))
  = (y1*((y2*y3+x2*x3)*(1+d*x2*x3*y2*y3))+x1*((x2*y3+y2*x3)*(1-d*x2*x3*y2*y3))) * ((1+d*x1*x2*y1*y2)*(1-d*x1*x2*y1*y2)-d*(x1*y2+y1*x2)*x3*(y1*y2+x1*x2)*y3)
    + ((x2*y2*d*(x2*(y2*(x2*(x3*(y1*(y2*(y3*d*(-x2*x3 - y2*y3)) + (-x3*x3 - 1)) + x1*y2*y3*d*(x2*y3 + y2*x3)) + x1*y3*(y3*y3 - 1)) + y2*(x1*(x3*(-x3*x3 - 1)) + y1*y3*(y3*y3 - 1))) + x2*x2*x3*y3*(x1*y3 - y1*x3)) + y2*y2*y2*x3*y3*(-x1*x3 + y1*y3)))*(y1*y1 - x1*x1 - (1 + d*x1*x1*y1*y1))
    + (x3*(y3*(x1*(x2*(d*(y2*(y1*(x3*(y3*(d*(x1*(x2*y3 - y2*x3) + y1*(-x2*x3 + y2*y3))) + x1*x2 + y1*y2) + y3*(x1*y2 + y1*x2)) + x1*(x1*(-x2*y3 - y2*x3)) + (-x2*y3 - y2*x3)) + x3*y3*(y3*(x1*x1 + (-y1*y1 + 1)) + x1*y1*x3)) + x3*(x1*x1 + (-y1*y1 + 1)) - x1*y1*y3) + y2*(y3*(x3*(d*(x3*(x1*x1 + (-y1*y1 + 1)) + x1*y1*y3)) + (-x1*x1 + y1*y1 - 1)) + x1*y1*x3)) + y1*(x2*(y3*(d*(y1*(y1*(-y2*y2 - x3*x3)) + y2*y2 + x3*x3) + y1*y1 - 1) + x2*y2*x3*d*(-y1*y1 + 1)) + y2*x3*(y1*(y1*(-y3*y3*d - 1)) + y3*y3*d + 1))) + x1*(y2*(x3*(x3*(x1*x1 + (-y1*y1 + 1))) + x1*x1 + (-y1*y1 + 1)) + x1*y1*x2*(x3*x3 + 1)) + y1*x2*(y1*(y1*(-x3*x3 - 1)) + x3*x3 + 1)) + y3*(x1*(x2*(y3*(y3*(-x1*x1 + y1*y1 - 1)) + x1*x1 + (-y1*y1 + 1)) + x1*y1*y2*(-y3*y3 + 1)) + y1*y2*(y1*(y1*(y3*y3 - 1)) + (-y3*y3 + 1))))*(y2*y2 - x2*x2 - (1 + d*x2*x2*y2*y2))
    + (x1*(x2*(y1*(y2*(x1*(x2*(y3*(-d - 1)) + y2*x3*(d + 1)) + y1*(x2*(x3*(d + 1)) + y2*y3*(-d - 1))) + x1*(x3*(-x2*x2 - 1)) + y1*y3*(x2*x2 + 1)) + y3*(x1*(x1*(-x2*x2 + y2*y2 - 1)) + (-x2*x2 + y2*y2 - 1)) + x2*y2*x3*(-x1*x1 - 1)) + y2*(x3*(y2*(y2*(x1*x1 + (-y1*y1 + 1))) + (-x1*x1 + y1*y1 - 1)) + x1*y1*y3*(y2*y2 - 1))) + y1*(x2*(x3*(y1*(y1*(x2*x2 + (-y2*y2 + 1))) + (-x2*x2 + y2*y2 - 1)) + x2*y2*y3*(y1*y1 - 1)) + y2*y3*(y1*(y1*(-y2*y2 + 1)) + y2*y2 - 1)))*(y3*y3 - x3*x3 - (1 + d*x3*x3*y3*y3))) := by
  grind
theorem key_on_cert {K : Type} [CommRing K] (x1 y1 x2 y2 d : K) :
  (y1*y2+x1*x2)*(y1*y2+x1*x2)*((1+d*x1*x2*y1*y2)*(1+d*x1*x2*y1*y2)) - (x1*y2+y1*x2)*(x1*y2+y1*x2)*((1-d*x1*x2*y1*y2)*(1-d*x1*x2*y1*y2))
  = (1+d*x1*x2*y1*y2)*(1+d*x1*x2*y1*y2)*((1-d*x1*x2*y1*y2)*(1-d*x1*x2*y1*y2)) + d*((x1*y2+y1*x2)*(x1*y2+y1*x2))*((y1*y2+x1*x2)*(y1*y2+x1*x2))
    + ((x2*(x2*(y2*(y2*(d*(x2*(x2*(y2*(y2*(d*(x1*(x1*(y1*y1*d - 1)) + y1*y1 - 1) - 2)) + (-x1*x1 + y1*y1))) + y2*(y2*(x1*x1 - y1*y1)) - 2) + (-2*x2*x2 + 2*y2*y2 - 4))) + x2*x2)) + y2*y2*y2*y2)*(y1*y1 - x1*x1 - (1 + d*x1*x1*y1*y1))
    + (x2*(x2*(y2*(y2*(d*(x1*(x1*(x1*x1 + 2)) + y1*(y1*(y1*y1 - 2)) + 1) + 2*x1*x1 + (-2*y1*y1 + 2))) + (-x1*x1 + y1*y1 - 1))) + y2*(y2*(x1*x1 + (-y1*y1 + 1))) + 1)*(y2*y2 - x2*x2 - (1 + d*x2*x2*y2*y2))) := by
  grind
theorem cert3 {K : Type} [CommRing K] (r c1 c2 c3 a b c : K) : r + (c1 * (a - a) + c2 * (b - b) + c3 * (c - c)) = r := by grind
theorem cert2 {K : Type} [CommRing K] (r c1 c2 a b : K) : r + (c1 * (a - a) + c2 * (b - b)) = r := by grind
theorem key_x {K : Type} [CommRing K] (x1 y1 x2 y2 x3 y3 d : K)
  (e1 : y1*y1 - x1*x1 = 1 + d*x1*x1*y1*y1) (e2 : y2*y2 - x2*x2 = 1 + d*x2*x2*y2*y2) (e3 : y3*y3 - x3*x3 = 1 + d*x3*x3*y3*y3) :
  ((x1*y2+y1*x2)*(1-d*x1*x2*y1*y2)*y3+(y1*y2+x1*x2)*(1+d*x1*x2*y1*y2)*x3) * ((1+d*x2*x3*y2*y3)*(1-d*x2*x3*y2*y3)+d*x1*(x2*y3+y2*x3)*y1*(y2*y3+x2*x3))
  = (x1*((y2*y3+x2*x3)*(1+d*x2*x3*y2*y3))+y1*((x2*y3+y2*x3)*(1-d*x2*x3*y2*y3))) * ((1+d*x1*x2*y1*y2)*(1-d*x1*x2*y1*y2)+d*(x1*y2+y1*x2)*x3*(y1*y2+x1*x2)*y3) := by
  rw [key_x_cert, e1, e2, e3]; exact cert3 _ _ _ _ _ _ _

theorem key_y {K : Type} [CommRing K] (x1 y1 x2 y2 x3 y3 d : K)
  (e1 : y1*y1 - x1*x1 = 1 + d*x1*x1*y1*y1) (e2 : y2*y2 - x2*x2 = 1 + d*x2*x2*y2*y2) (e3 : y3*y3 - x3*x3 = 1 + d*x3*x3*y3*y3) :
  ((y1*y2+x1*x2)*(1+d*x1*x2*y1*y2)*y3+(x1*y2+y1*x2)*(1-d*x1*x2*y1*y2)*x3) * ((1+d*x2*x3*y2*y3)*(1-d*x2*x3*y2*y3)-d*x1*(x2*y3+y2*x3)*y1*(y2*y3+x2*x3))
  = (y1*((y2*y3+x2*x3)*(1+d*x2*x3*y2*y3))+x1*((x2*y3+y2*x3)*(1-d*x2*x3*y2*y3))) * ((1+d*x1*x2*y1*y2)*(1-d*x1*x2*y1*y2)-d*(x1*y2+y1*x2)*x3*(y1*y2+x1*x2)*y3) := by
  rw [key_y_cert, e1, e2, e3]; exact cert3 _ _ _ _ _ _ _

theorem key_on {K : Type} [CommRing K] (x1 y1 x2 y2 d : K)
  (e1 : y1*y1 - x1*x1 = 1 + d*x1*x1*y1*y1) (e2 : y2*y2 - x2*x2 = 1 + d*x2*x2*y2*y2) :
  (y1*y2+x1*x2)*(y1*y2+x1*x2)*((1+d*x1*x2*y1*y2)*(1+d*x1*x2*y1*y2)) - (x1*y2+y1*x2)*(x1*y2+y1*x2)*((1-d*x1*x2*y1*y2)*(1-d*x1*x2*y1*y2))
  = (1+d*x1*x2*y1*y2)*(1+d*x1*x2*y1*y2)*((1-d*x1*x2*y1*y2)*(1-d*x1*x2*y1*y2)) + d*((x1*y2+y1*x2)*(x1*y2+y1*x2))*((y1*y2+x1*x2)*(y1*y2+x1*x2)) := by
  rw [key_on_cert, e1, e2]; exact cert2 _ _ _ _ _

theorem ring_x {K : Type} [CommRing K] {X12 a12 Y12 b12 y3 x3 a23 b23 d x1 y1 X23 Y23 : K}
  (k : ((X12*a12)*b12*y3 + (Y12*b12)*a12*x3) * (a23*b23 + d*x1*(X23*a23)*y1*(Y23*b23)) = (x1*((Y23*b23)*a23) + y1*((X23*a23)*b23)) * (a12*b12 + d*(X12*a12)*x3*(Y12*b12)*y3)) :
  (X12*y3+Y12*x3)*(1+d*x1*X23*y1*Y23) * (a12*b12*(a23*b23)) = (x1*Y23+y1*X23)*(1+d*X12*x3*Y12*y3) * (a12*b12*(a23*b23)) := by grind
theorem ring_y {K : Type} [CommRing K] {X12 a12 Y12 b12 y3 x3 a23 b23 d x1 y1 X23 Y23 : K}
  (k : ((Y12*b12)*a12*y3 + (X12*a12)*b12*x3) * (a23*b23 - d*x1*(X23*a23)*y1*(Y23*b23)) = (y1*((Y23*b23)*a23) + x1*((X23*a23)*b23)) * (a12*b12 - d*(X12*a12)*x3*(Y12*b12)*y3)) :
  (Y12*y3+X12*x3)*(1-d*x1*X23*y1*Y23) * (a12*b12*(a23*b23)) = (y1*Y23+x1*X23)*(1-d*X12*x3*Y12*y3) * (a12*b12*(a23*b23)) := by grind
theorem ring_s {K : Type} [CommRing K] {a b c e : K} (h : a * b * c = e * c * b) : a * (b * c) = e * (b * c) := by grind

structure Cv (K : Type) [CommRing K] where
  d : K
  i : K
  iv : K → K
  hi : i * i = -1
  hinv : ∀ a, a ≠ 0 → a * iv a = 1
  nsq : ∀ s, s * s ≠ d
  one_ne : (1:K) ≠ 0
  two_ne : (2:K) ≠ 0

namespace Cv
variable {K : Type} [CommRing K] (C : Cv K)

include C in
theorem dom {a b : K} (h : a * b = 0) : a = 0 ∨ b = 0 := by
  by_cases ha : a = 0
  · exact .inl ha
  · refine .inr ?_
    have := C.hinv a ha
    grind
include C in
theorem mul_ne {a b : K} (ha : a ≠ 0) (hb : b ≠ 0) : a * b ≠ 0 := fun h => (C.dom h).elim ha hb
include C in
theorem cancel {a b c : K} (hc : c ≠ 0) (h : a * c = b * c) : a = b := by
  have := C.hinv c hc
  grind

theorem complete {x1 y1 x2 y2 e : K} (e1 : y1*y1 - x1*x1 = 1 + C.d*x1*x1*y1*y1) (e2 : y2*y2 - x2*x2 = 1 + C.d*x2*x2*y2*y2) (he : e * e = 1) : C.d*x1*x2*y1*y2 ≠ e := by
  intro h
  have hi := C.hi
  have one := C.one_ne
  have ene : e ≠ 0 := fun z => one (by rw [← he, z]; grind)
  have x1ne : x1 ≠ 0 := fun z => ene (by rw [← h, z]; grind)
  have y1ne : y1 ≠ 0 := fun z => ene (by rw [← h, z]; grind)
  have y2ne : y2 ≠ 0 := fun z => ene (by rw [← h, z]; grind)
  have sq : ∀ w t : K, w ≠ 0 → t * t = C.d * (w * w) → False := by
    intro w t hw ht
    have := C.hinv w hw
    refine C.nsq (t * C.iv w) ?_
    grind
  by_cases h1 : C.i * x2 + y2 = 0
  · by_cases h2 : C.i * x2 - y2 = 0
    · have : (2:K) * y2 = 0 := by grind
      exact (C.dom this).elim C.two_ne y2ne
    · refine sq (x1 * y1 * (C.i * x2 - y2)) (C.i * x1 - e * y1) (C.mul_ne (C.mul_ne x1ne y1ne) h2) ?_
      generalize C.i = i at *
      generalize C.d = d at *
      grind
  · refine sq (x1 * y1 * (C.i * x2 + y2)) (C.i * x1 + e * y1) (C.mul_ne (C.mul_ne x1ne y1ne) h1) ?_
    generalize C.i = i at *
    generalize C.d = d at *
    grind
theorem plus_ne {x1 y1 x2 y2 : K} (e1 : y1*y1 - x1*x1 = 1 + C.d*x1*x1*y1*y1) (e2 : y2*y2 - x2*x2 = 1 + C.d*x2*x2*y2*y2) : 1 + C.d*x1*x2*y1*y2 ≠ 0 := fun h =>
  C.complete e1 e2 (e := -1) (by grind) (by grind)
theorem minus_ne {x1 y1 x2 y2 : K} (e1 : y1*y1 - x1*x1 = 1 + C.d*x1*x1*y1*y1) (e2 : y2*y2 - x2*x2 = 1 + C.d*x2*x2*y2*y2) : 1 - C.d*x1*x2*y1*y2 ≠ 0 := fun h =>
  C.complete e1 e2 (e := 1) (by grind) (by grind)

structure Pt where
  x : K
  y : K
  on : y*y - x*x = 1 + C.d*x*x*y*y

variable {C}
theorem Pt.ext' {P Q : C.Pt} (hx : P.x = Q.x) (hy : P.y = Q.y) : P = Q := by
  cases P; cases Q; cases hx; cases hy; rfl

def Pt.zero : C.Pt := ⟨0, 1, by grind⟩
def Pt.neg (P : C.Pt) : C.Pt := ⟨-P.x, P.y, by have := P.on; grind⟩

def Pt.add (P Q : C.Pt) : C.Pt where
  x := (P.x * Q.y + P.y * Q.x) * C.iv (1 + C.d*P.x*Q.x*P.y*Q.y)
  y := (P.y * Q.y + P.x * Q.x) * C.iv (1 - C.d*P.x*Q.x*P.y*Q.y)
  on := by
    have h1 := C.plus_ne P.on Q.on
    have h2 := C.minus_ne P.on Q.on
    have k1 := C.hinv _ h1
    have k2 := C.hinv _ h2
    have key := key_on _ _ _ _ _ P.on Q.on
    generalize C.iv (1 + C.d*P.x*Q.x*P.y*Q.y) = u at *
    generalize C.iv (1 - C.d*P.x*Q.x*P.y*Q.y) = v at *
    generalize 1 + C.d*P.x*Q.x*P.y*Q.y = a at *
    generalize 1 - C.d*P.x*Q.x*P.y*Q.y = b at *
    generalize P.y * Q.y + P.x * Q.x = p at *
    generalize P.x * Q.y + P.y * Q.x = n at *
    generalize C.d = d at *
    refine C.cancel (C.mul_ne (C.mul_ne h1 h1) (C.mul_ne h2 h2)) ?_
    have l : (p * v * (p * v) - n * u * (n * u)) * (a * a * (b * b)) = p * p * (a * a) * ((b*v)*(b*v)) - n * n * (b * b) * ((a*u)*(a*u)) := by grind
    have r : (1 + d * (n * u) * (n * u) * (p * v) * (p * v)) * (a * a * (b * b)) = a * a * (b * b) + d * (n * n) * (p * p) * ((a*u)*(a*u)) * ((b*v)*(b*v)) := by grind
    rw [l, r, k1, k2]
    grind

theorem Pt.add_x (P Q : C.Pt) : (P.add Q).x * (1 + C.d*P.x*Q.x*P.y*Q.y) = P.x * Q.y + P.y * Q.x := by
  have k1 := C.hinv _ (C.plus_ne P.on Q.on)
  show (P.x * Q.y + P.y * Q.x) * C.iv (1 + C.d*P.x*Q.x*P.y*Q.y) * _ = _
  grind
theorem Pt.add_y (P Q : C.Pt) : (P.add Q).y * (1 - C.d*P.x*Q.x*P.y*Q.y) = P.y * Q.y + P.x * Q.x := by
  have k1 := C.hinv _ (C.minus_ne P.on Q.on)
  show (P.y * Q.y + P.x * Q.x) * C.iv (1 - C.d*P.x*Q.x*P.y*Q.y) * _ = _
  grind

theorem Pt.add_comm (P Q : C.Pt) : P.add Q = Q.add P := by
  have a := C.plus_ne P.on Q.on
  have b := C.minus_ne P.on Q.on
  have h1 := Pt.add_x P Q
  have h2 := Pt.add_x Q P
  have h3 := Pt.add_y P Q
  have h4 := Pt.add_y Q P
  refine Pt.ext' (C.cancel a ?_) (C.cancel b ?_)
  · grind
  · grind
theorem Pt.add_zero (P : C.Pt) : P.add .zero = P := by
  have a := C.plus_ne P.on (Pt.zero (C := C)).on
  have b := C.minus_ne P.on (Pt.zero (C := C)).on
  have h1 := Pt.add_x P .zero
  have h3 := Pt.add_y P .zero
  refine Pt.ext' (C.cancel a ?_) (C.cancel b ?_)
  · simp only [Pt.zero] at *; grind
  · simp only [Pt.zero] at *; grind
theorem Pt.zero_add (P : C.Pt) : Pt.zero.add P = P := by rw [Pt.add_comm, Pt.add_zero]
theorem Pt.add_neg (P : C.Pt) : P.add P.neg = .zero := by
  have a := C.plus_ne P.on P.neg.on
  have b := C.minus_ne P.on P.neg.on
  have h1 := Pt.add_x P P.neg
  have h3 := Pt.add_y P P.neg
  have o := P.on
  refine Pt.ext' (C.cancel a ?_) (C.cancel b ?_)
  · simp only [Pt.zero, Pt.neg] at *; grind
  · simp only [Pt.zero, Pt.neg] at *; grind

theorem Pt.add_assoc (P Q R : C.Pt) : (P.add Q).add R = P.add (Q.add R) := by
  have a12 := C.plus_ne P.on Q.on
  have b12 := C.minus_ne P.on Q.on
  have a23 := C.plus_ne Q.on R.on
  have b23 := C.minus_ne Q.on R.on
  have l1 := C.plus_ne (P.add Q).on R.on
  have l2 := C.minus_ne (P.add Q).on R.on
  have r1 := C.plus_ne P.on (Q.add R).on
  have r2 := C.minus_ne P.on (Q.add R).on
  have hx12 := Pt.add_x P Q
  have hy12 := Pt.add_y P Q
  have hx23 := Pt.add_x Q R
  have hy23 := Pt.add_y Q R
  have X := Pt.add_x (P.add Q) R
  have X' := Pt.add_x P (Q.add R)
  have Y := Pt.add_y (P.add Q) R
  have Y' := Pt.add_y P (Q.add R)
  have kx := key_x _ _ _ _ _ _ _ P.on Q.on R.on
  have ky := key_y _ _ _ _ _ _ _ P.on Q.on R.on
  rw [← hx12, ← hy12, ← hx23, ← hy23] at kx ky
  have cx := C.cancel (C.mul_ne (C.mul_ne a12 b12) (C.mul_ne a23 b23)) (ring_x kx)
  have cy := C.cancel (C.mul_ne (C.mul_ne a12 b12) (C.mul_ne a23 b23)) (ring_y ky)
  rw [← X, ← X'] at cx
  rw [← Y, ← Y'] at cy
  exact Pt.ext' (C.cancel (C.mul_ne l1 r1) (ring_s cx)) (C.cancel (C.mul_ne l2 r2) (ring_s cy))
end Cv
end
end Mine

namespace Mine
noncomputable section
open Lean.Grind
namespace Cv
variable {K : Type} [CommRing K] {C : Cv K}

noncomputable def Pt.smul : Nat → C.Pt → C.Pt
  | 0, _ => .zero
  | n + 1, P => P.add (Pt.smul n P)
theorem Pt.smul_add (m n : Nat) (P : C.Pt) : Pt.smul (m + n) P = (Pt.smul m P).add (Pt.smul n P) := by
  induction m with
  | zero => rw [Nat.zero_add]; exact (Pt.zero_add _).symm
  | succ m ih => rw [Nat.succ_add]; show P.add _ = (P.add _).add _; rw [ih, Pt.add_assoc]
theorem Pt.smul_one (P : C.Pt) : Pt.smul 1 P = P := Pt.add_zero P
theorem Pt.smul_zero (n : Nat) : Pt.smul n (Pt.zero : C.Pt) = .zero := by
  induction n with
  | zero => rfl
  | succ n ih => show Pt.zero.add _ = _; rw [ih, Pt.add_zero]
theorem Pt.add4 (P Q R S : C.Pt) : (P.add Q).add (R.add S) = (P.add R).add (Q.add S) := by
  rw [Pt.add_assoc, Pt.add_assoc, ← Pt.add_assoc Q, Pt.add_comm Q R, Pt.add_assoc]
theorem Pt.smul_addP (n : Nat) (P Q : C.Pt) : Pt.smul n (P.add Q) = (Pt.smul n P).add (Pt.smul n Q) := by
  induction n with
  | zero => exact (Pt.add_zero _).symm
  | succ n ih => show (P.add Q).add _ = (P.add _).add (Q.add _); rw [ih, Pt.add4]
theorem Pt.smul_mul (m n : Nat) (P : C.Pt) : Pt.smul (m * n) P = Pt.smul m (Pt.smul n P) := by
  induction m with
  | zero => rw [Nat.zero_mul]; rfl
  | succ m ih => rw [Nat.succ_mul, Pt.smul_add, ih, Pt.add_comm]; rfl
theorem Pt.smul_two (P : C.Pt) : Pt.smul 2 P = P.add P := by show P.add (P.add _) = _; rw [show Pt.smul 0 P = .zero from rfl, Pt.add_zero]
theorem Pt.neg_zero : (Pt.zero : C.Pt).neg = .zero := Pt.ext' (by show -(0:K) = 0; grind) rfl
theorem Pt.eq_neg {P Q : C.Pt} (h : P.add Q = .zero) : Q = P.neg := by
  have : P.neg.add (P.add Q) = P.neg.add .zero := by rw [h]
  rw [← Pt.add_assoc, Pt.add_comm P.neg P, Pt.add_neg, Pt.zero_add, Pt.add_zero] at this
  exact this
theorem Pt.neg_neg (P : C.Pt) : P.neg.neg = P := Pt.ext' (by show -(-P.x) = P.x; grind) rfl
theorem Pt.neg_add (P Q : C.Pt) : (P.add Q).neg = P.neg.add Q.neg := by
  refine (Pt.eq_neg ?_).symm
  rw [Pt.add4, Pt.add_neg, Pt.add_neg, Pt.add_zero]
theorem Pt.smul_neg (n : Nat) (P : C.Pt) : Pt.smul n P.neg = (Pt.smul n P).neg := by
  induction n with
  | zero => exact Pt.neg_zero.symm
  | succ n ih => show P.neg.add _ = (P.add _).neg; rw [ih, Pt.neg_add]
theorem Pt.add_right_cancel {P Q R : C.Pt} (h : P.add R = Q.add R) : P = Q := by
  have : (P.add R).add R.neg = (Q.add R).add R.neg := by rw [h]
  rwa [Pt.add_assoc, Pt.add_assoc, Pt.add_neg, Pt.add_zero, Pt.add_zero] at this
theorem Pt.neg_inj {P Q : C.Pt} (h : P.neg = Q.neg) : P = Q := by rw [← Pt.neg_neg P, h, Pt.neg_neg]

/-- projective triples -/
structure Rep3 (x y z : K) (P : C.Pt) : Prop where
  nz : z ≠ 0
  ex : x = P.x * z
  ey : y = P.y * z
/-- extended coordinates -/
structure Rep4 (X Y Z T : K) (P : C.Pt) : Prop where
  nz : Z ≠ 0
  ex : X = P.x * Z
  ey : Y = P.y * Z
  et : T = P.x * P.y * Z

theorem Rep3.uniq {x y z : K} {P Q : C.Pt} (h : Rep3 x y z P) (h' : Rep3 x y z Q) : P = Q :=
  Pt.ext' (C.cancel h.nz (h.ex.symm.trans h'.ex)) (C.cancel h.nz (h.ey.symm.trans h'.ey))

theorem Rep3.add {x1 y1 z1 x2 y2 z2 : K} {P Q : C.Pt} (h : Rep3 x1 y1 z1 P) (k : Rep3 x2 y2 z2 Q) :
    Rep3 (z1*z2*(x1*y2+y1*x2)*(z1*z2*(z1*z2) - C.d*(x1*x2)*(y1*y2))) (z1*z2*(y1*y2+x1*x2)*(z1*z2*(z1*z2) + C.d*(x1*x2)*(y1*y2)))
      ((z1*z2*(z1*z2) - C.d*(x1*x2)*(y1*y2))*(z1*z2*(z1*z2) + C.d*(x1*x2)*(y1*y2))) (P.add Q) := by
  have a := C.plus_ne P.on Q.on
  have b := C.minus_ne P.on Q.on
  have hx := Pt.add_x P Q
  have hy := Pt.add_y P Q
  have zz := C.mul_ne h.nz k.nz
  obtain ⟨h1, h2, h3⟩ := h
  obtain ⟨k1, k2, k3⟩ := k
  subst h2 h3 k2 k3
  have l : z1*z2*(z1*z2) - C.d*(P.x*z1*(Q.x*z2))*(P.y*z1*(Q.y*z2)) = (1 - C.d*P.x*Q.x*P.y*Q.y) * (z1*z2*(z1*z2)) := by grind
  have m : z1*z2*(z1*z2) + C.d*(P.x*z1*(Q.x*z2))*(P.y*z1*(Q.y*z2)) = (1 + C.d*P.x*Q.x*P.y*Q.y) * (z1*z2*(z1*z2)) := by grind
  have n : P.x*z1*(Q.y*z2) + P.y*z1*(Q.x*z2) = (P.x * Q.y + P.y * Q.x) * (z1 * z2) := by grind
  have o : P.y*z1*(Q.y*z2) + P.x*z1*(Q.x*z2) = (P.y * Q.y + P.x * Q.x) * (z1 * z2) := by grind
  rw [l, m, n, o, ← hx, ← hy]
  generalize P.add Q = S at *
  generalize 1 - C.d*P.x*Q.x*P.y*Q.y = u at *
  generalize 1 + C.d*P.x*Q.x*P.y*Q.y = v at *
  exact ⟨C.mul_ne (C.mul_ne b (C.mul_ne zz zz)) (C.mul_ne a (C.mul_ne zz zz)), by grind, by grind⟩

theorem Rep4.three {X Y Z T : K} {P : C.Pt} (h : Rep4 X Y Z T P) : Rep3 X Y Z P := ⟨h.nz, h.ex, h.ey⟩

theorem four_ne {a b : K} (C : Cv K) (ha : a ≠ 0) (hb : b ≠ 0) : (2:K)*a*b ≠ 0 := C.mul_ne (C.mul_ne C.two_ne ha) hb

theorem mk4 {S : C.Pt} {E F G H u v z : K} (hu : u ≠ 0) (hv : v ≠ 0) (hz : z ≠ 0) (hE : E = S.x * v * z) (hF : F = u * z) (hG : G = v * z) (hH : H = S.y * u * z) : Rep4 (E*F) (G*H) (F*G) (E*H) S := by
  subst hE hF hG hH
  exact ⟨C.mul_ne (C.mul_ne hu hz) (C.mul_ne hv hz), by grind, by grind, by grind⟩
theorem ring_add {K : Type} [CommRing K] {px py qx qy d Z1 Z2 A B c D E F G H : K}
    (hA : A = (py*Z1-px*Z1)*(qy*Z2-qx*Z2)) (hB : B = (py*Z1+px*Z1)*(qy*Z2+qx*Z2)) (hC : c = px*py*Z1*(2*d)*(qx*qy*Z2)) (hD : D = Z1*2*Z2) (hE : E = B-A) (hF : F = D-c) (hG : G = D+c) (hH : H = B+A) :
    E = (px*qy+py*qx)*(2*(Z1*Z2)) ∧ F = (1 - d*px*qx*py*qy)*(2*(Z1*Z2)) ∧ G = (1 + d*px*qx*py*qy)*(2*(Z1*Z2)) ∧ H = (py*qy+px*qx)*(2*(Z1*Z2)) := by
  subst hE hF hG hH hA hB hC hD
  exact ⟨by grind, by grind, by grind, by grind⟩
theorem ring_dbl {K : Type} [CommRing K] {px py d Z1 A B c D J E F G H : K} (on : py*py - px*px = 1 + d*px*px*py*py)
    (hA : A = px*Z1*(px*Z1)) (hB : B = py*Z1*(py*Z1)) (hC : c = 2*Z1*Z1) (hD : D = -A) (hJ : J = px*Z1+py*Z1) (hE : E = J*J-A-B) (hG : G = D+B) (hF : F = G-c) (hH : H = D-B) :
    E = (px*py+py*px)*(Z1*Z1) ∧ F = -((1 - d*px*px*py*py)*(Z1*Z1)) ∧ G = (1 + d*px*px*py*py)*(Z1*Z1) ∧ H = -((py*py+px*px)*(Z1*Z1)) := by
  subst hE hF hG hH hJ hD hA hB hC
  exact ⟨by grind, by grind, by grind, by grind⟩
theorem ring_nonu {K : Type} [CommRing K] {px py qx qy Z1 Z2 A B c D E F G H : K}
    (hA : A = (py*Z1-px*Z1)*(qy*Z2+qx*Z2)) (hB : B = (py*Z1+px*Z1)*(qy*Z2-qx*Z2)) (hC : c = Z1*2*(qx*qy*Z2)) (hD : D = px*py*Z1*2*Z2) (hE : E = D+c) (hF : F = B-A) (hG : G = B+A) (hH : H = D-c) :
    E = (px*py+qx*qy)*(2*(Z1*Z2)) ∧ F = (px*qy-py*qx)*(2*(Z1*Z2)) ∧ G = (py*qy-px*qx)*(2*(Z1*Z2)) ∧ H = (px*py-qx*qy)*(2*(Z1*Z2)) := by
  subst hE hF hG hH hA hB hC hD
  exact ⟨by grind, by grind, by grind, by grind⟩

theorem Rep4.add {X1 Y1 Z1 T1 X2 Y2 Z2 T2 A B c D E F G H : K} {P Q : C.Pt} (h : Rep4 X1 Y1 Z1 T1 P) (k : Rep4 X2 Y2 Z2 T2 Q)
    (hA : A = (Y1-X1)*(Y2-X2)) (hB : B = (Y1+X1)*(Y2+X2)) (hC : c = T1*(2*C.d)*T2) (hD : D = Z1*2*Z2) (hE : E = B-A) (hF : F = D-c) (hG : G = D+c) (hH : H = B+A) :
    Rep4 (E*F) (G*H) (F*G) (E*H) (P.add Q) := by
  have a := C.plus_ne P.on Q.on
  have b := C.minus_ne P.on Q.on
  have hx := Pt.add_x P Q
  have hy := Pt.add_y P Q
  have zz := C.mul_ne h.nz k.nz
  obtain ⟨h1, h2, h3, h4⟩ := h
  obtain ⟨k1, k2, k3, k4⟩ := k
  subst h2 h3 h4 k2 k3 k4
  obtain ⟨eE, eF, eG, eH⟩ := ring_add hA hB hC hD hE hF hG hH
  exact mk4 b a (C.mul_ne C.two_ne zz) (by rw [eE, hx]) eF eG (by rw [eH, hy])

theorem Rep4.dbl {X1 Y1 Z1 A B c D J E F G H : K} {P : C.Pt} (h : Rep3 X1 Y1 Z1 P)
    (hA : A = X1*X1) (hB : B = Y1*Y1) (hC : c = 2*Z1*Z1) (hD : D = -A) (hJ : J = X1+Y1) (hE : E = J*J-A-B) (hG : G = D+B) (hF : F = G-c) (hH : H = D-B) :
    Rep4 (E*F) (G*H) (F*G) (E*H) (P.add P) := by
  have a := C.plus_ne P.on P.on
  have b := C.minus_ne P.on P.on
  have hx := Pt.add_x P P
  have hy := Pt.add_y P P
  have on := P.on
  have zz := C.mul_ne h.nz h.nz
  obtain ⟨h1, h2, h3⟩ := h
  subst h2 h3
  obtain ⟨eE, eF, eG, eH⟩ := ring_dbl on hA hB hC hD hJ hE hG hF hH
  have e1 : ∀ u w : K, -(u * w) = -u * w := fun u w => by grind
  have e2 : ∀ s u w : K, -(s * u * w) = s * -u * w := fun s u w => by grind
  have b' : -(1 - C.d*P.x*P.x*P.y*P.y) ≠ 0 := fun h => b (by grind)
  exact mk4 b' a zz (by rw [eE, hx]) (by rw [eF, e1]) eG (by rw [eH, ← hy, e2])

theorem key_dx {K : Type} [CommRing K] (x1 y1 x2 y2 d : K)
  (e1 : y1*y1 - x1*x1 = 1 + d*x1*x1*y1*y1) (e2 : y2*y2 - x2*x2 = 1 + d*x2*x2*y2*y2) :
  (x1*y1+x2*y2)*(1+d*x1*x2*y1*y2) = (x1*y2+y1*x2)*(y1*y2-x1*x2) := by grind
theorem key_dy {K : Type} [CommRing K] (x1 y1 x2 y2 d : K)
  (e1 : y1*y1 - x1*x1 = 1 + d*x1*x1*y1*y1) (e2 : y2*y2 - x2*x2 = 1 + d*x2*x2*y2*y2) :
  (x1*y1-x2*y2)*(1-d*x1*x2*y1*y2) = (y1*y2+x1*x2)*(x1*y2-y1*x2) := by grind

theorem ring_nx {K : Type} [CommRing K] {a b c e : K} (h : a * b - c * e = 0) : a * b + c * (-e) = 0 := by grind
theorem ring_sw {K : Type} [CommRing K] {a b c : K} : a * b * c = a * c * b := by grind
theorem Rep4.nonu {X1 Y1 Z1 T1 X2 Y2 Z2 T2 A B c D E F G H : K} {P Q : C.Pt} (h : Rep4 X1 Y1 Z1 T1 P) (k : Rep4 X2 Y2 Z2 T2 Q)
    (hx0 : (P.add Q.neg).x ≠ 0) (hy0 : (P.add Q.neg).y ≠ 0)
    (hA : A = (Y1-X1)*(Y2+X2)) (hB : B = (Y1+X1)*(Y2-X2)) (hC : c = Z1*2*T2) (hD : D = T1*2*Z2) (hE : E = D+c) (hF : F = B-A) (hG : G = B+A) (hH : H = D-c) :
    Rep4 (E*F) (G*H) (F*G) (E*H) (P.add Q) := by
  have a := C.plus_ne P.on Q.on
  have b := C.minus_ne P.on Q.on
  have hx := Pt.add_x P Q
  have hy := Pt.add_y P Q
  have zz := C.mul_ne h.nz k.nz
  have kx := key_dx _ _ _ _ _ P.on Q.on
  have ky := key_dy _ _ _ _ _ P.on Q.on
  have nx : P.x * Q.y - P.y * Q.x ≠ 0 := fun e => by
    have t := Pt.add_x P Q.neg
    have t2 : (P.add Q.neg).x * (1 + C.d*P.x*Q.neg.x*P.y*Q.neg.y) = 0 := by rw [t]; exact ring_nx e
    exact (C.dom t2).elim hx0 (C.plus_ne P.on Q.neg.on)
  have ny : P.y * Q.y - P.x * Q.x ≠ 0 := fun e => by
    have t := Pt.add_y P Q.neg
    have t2 : (P.add Q.neg).y * (1 - C.d*P.x*Q.neg.x*P.y*Q.neg.y) = 0 := by rw [t]; exact ring_nx e
    exact (C.dom t2).elim hy0 (C.minus_ne P.on Q.neg.on)
  rw [← hx] at kx
  rw [← hy] at ky
  have kx' : P.x * P.y + Q.x * Q.y = (P.add Q).x * (P.y*Q.y - P.x*Q.x) := C.cancel a (by rw [kx]; exact ring_sw)
  have ky' : P.x * P.y - Q.x * Q.y = (P.add Q).y * (P.x*Q.y - P.y*Q.x) := C.cancel b (by rw [ky]; exact ring_sw)
  obtain ⟨h1, h2, h3, h4⟩ := h
  obtain ⟨k1, k2, k3, k4⟩ := k
  subst h2 h3 h4 k2 k3 k4
  obtain ⟨eE, eF, eG, eH⟩ := ring_nonu hA hB hC hD hE hF hG hH
  exact mk4 nx ny (C.mul_ne C.two_ne zz) (by rw [eE, kx']) eF eG (by rw [eH, ky'])

/-- a point with x = 0 or y = 0 has order dividing 4 -/
theorem Pt.four_of_x {P : C.Pt} (h : P.x = 0) : Pt.smul 4 P = .zero := by
  have h2 : Pt.smul 2 P = .zero := by
    rw [Pt.smul_two]
    have a := C.plus_ne P.on P.on
    have b := C.minus_ne P.on P.on
    have hx := Pt.add_x P P
    have hy := Pt.add_y P P
    have on := P.on
    rw [h] at *
    refine Pt.ext' (C.cancel a ?_) (C.cancel b ?_)
    · rw [hx]; show _ = (0:K) * _; grind
    · rw [hy]; show _ = (1:K) * _; grind
  rw [show 4 = 2 * 2 from rfl, Pt.smul_mul, h2]; exact Pt.smul_zero 2
theorem Pt.four_of_y {P : C.Pt} (h : P.y = 0) : Pt.smul 4 P = .zero := by
  have h2 : Pt.smul 2 P = ⟨0, -1, by grind⟩ := by
    rw [Pt.smul_two]
    have a := C.plus_ne P.on P.on
    have b := C.minus_ne P.on P.on
    have hx := Pt.add_x P P
    have hy := Pt.add_y P P
    have on := P.on
    rw [h] at *
    refine Pt.ext' (C.cancel a ?_) (C.cancel b ?_)
    · rw [hx]; show _ = (0:K) * _; grind
    · rw [hy]; show _ = (-1:K) * _; grind
  rw [show 4 = 2 * 2 from rfl, Pt.smul_mul, h2, Pt.smul_two]
  generalize hP : (⟨0, -1, by grind⟩ : C.Pt) = Q
  have qx : Q.x = 0 := by rw [← hP]
  have qy : Q.y = -1 := by rw [← hP]
  have a := C.plus_ne Q.on Q.on
  have b := C.minus_ne Q.on Q.on
  have hx := Pt.add_x Q Q
  have hy := Pt.add_y Q Q
  refine Pt.ext' (C.cancel a ?_) (C.cancel b ?_)
  · rw [hx, qx, qy]; show _ = (0:K) * _; grind
  · rw [hy, qx, qy]; show _ = (1:K) * _; grind

theorem Rep3.zero_iff {X Y Z : K} {P : C.Pt} (h : Rep3 X Y Z P) : P = .zero ↔ X = 0 ∧ Y = Z := by
  obtain ⟨h1, h2, h3⟩ := h
  constructor
  · intro e
    subst e
    exact ⟨by rw [h2]; show (0:K) * Z = 0; grind, by rw [h3]; show (1:K) * Z = Z; grind⟩
  · rintro ⟨e1, e2⟩
    refine Pt.ext' (C.cancel h1 ?_) (C.cancel h1 ?_)
    · rw [← h2, e1]; show (0:K) = (0:K) * Z; grind
    · rw [← h3, e2]; show Z = (1:K) * Z; grind
theorem Rep3.zero : Rep3 (0:K) 1 1 (Pt.zero : C.Pt) := ⟨C.one_ne, by show (0:K) = 0 * 1; grind, by show (1:K) = 1 * 1; grind⟩
theorem Rep4.zero : Rep4 (0:K) 1 1 0 (Pt.zero : C.Pt) := ⟨C.one_ne, by show (0:K) = 0 * 1; grind, by show (1:K) = 1 * 1; grind, by show (0:K) = 0 * 1 * 1; grind⟩
theorem Rep3.neg {x y z : K} {P : C.Pt} (h : Rep3 x y z P) : Rep3 (-x) y z P.neg := ⟨h.nz, by rw [h.ex]; show _ = (-P.x) * z; grind, h.ey⟩
theorem Rep3.ext4 {x y z s : K} {P : C.Pt} (h : Rep3 x y z P) (hs : s ≠ 0) : Rep4 (s*x*z) (s*y*z) (s*z*z) (s*x*y) P := by
  obtain ⟨h1, h2, h3⟩ := h
  subst h2 h3
  exact ⟨C.mul_ne (C.mul_ne hs h1) h1, by grind, by grind, by grind⟩
/-- what `_law_stands` asks -/
theorem stands {X Y Z T x y z : K} {P : C.Pt} (h : Rep4 X Y Z T P) (k : Rep3 x y z P) : X * Y - Z * T = 0 ∧ X * z - x * Z = 0 ∧ Y * z - y * Z = 0 := by
  obtain ⟨h1, h2, h3, h4⟩ := h
  obtain ⟨k1, k2, k3⟩ := k
  subst h2 h3 h4 k2 k3
  exact ⟨by grind, by grind, by grind⟩
end Cv
end
end Mine

namespace Mine
noncomputable section
structure IsPrime (p : Nat) : Prop where
  two_le : 2 ≤ p
  only : ∀ m, m ∣ p → m = 1 ∨ m = p

theorem IsPrime.coprime {p a : Nat} (hp : IsPrime p) (h : ¬ p ∣ a) : Nat.Coprime p a := by
  rcases hp.only _ (Nat.gcd_dvd_left p a) with e | e
  · exact e
  · exact absurd (e ▸ Nat.gcd_dvd_right p a) h
theorem IsPrime.dvd_mul {p a b : Nat} (hp : IsPrime p) (h : p ∣ a * b) : p ∣ a ∨ p ∣ b := by
  by_cases ha : p ∣ a
  · exact .inl ha
  · exact .inr ((hp.coprime ha).dvd_of_dvd_mul_left h)
theorem IsPrime.dvd_pow {p a : Nat} (hp : IsPrime p) : ∀ {n : Nat}, p ∣ a ^ n → p ∣ a
  | 0, h => by have := hp.two_le; rw [Nat.pow_zero] at h; have := Nat.le_of_dvd (by decide) h; omega
  | n + 1, h => by rw [Nat.pow_succ] at h; exact (hp.dvd_mul h).elim (fun h => hp.dvd_pow h) id

noncomputable def ch : Nat → Nat → Nat
  | _, 0 => 1
  | 0, _ + 1 => 0
  | n + 1, k + 1 => ch n k + ch n (k + 1)
theorem ch_zero (n : Nat) : ch n 0 = 1 := by cases n <;> rfl
theorem ch_lt : ∀ {n k : Nat}, n < k → ch n k = 0
  | _, 0, h => absurd h (Nat.not_lt_zero _)
  | 0, _ + 1, _ => rfl
  | n + 1, k + 1, h => by show ch n k + ch n (k + 1) = 0; rw [ch_lt (by omega), ch_lt (by omega)]
theorem ch_self : ∀ n : Nat, ch n n = 1
  | 0 => rfl
  | n + 1 => by show ch n n + ch n (n + 1) = 1; rw [ch_self n, ch_lt (by omega)]
theorem ch_mul : ∀ n k : Nat, (k + 1) * ch (n + 1) (k + 1) = (n + 1) * ch n k
  | 0, 0 => rfl
  | 0, k + 1 => by
    have a : ch 1 (k + 2) = 0 := ch_lt (by omega)
    have b : ch 0 (k + 1) = 0 := ch_lt (by omega)
    rw [a, b]; omega
  | n + 1, 0 => by
    have h := ch_mul n 0
    have e : ch (n + 2) 1 = ch (n + 1) 0 + ch (n + 1) 1 := rfl
    rw [ch_zero] at h e
    simp only [Nat.zero_add] at *
    rw [e, ch_zero]; omega
  | n + 1, k + 1 => by
    have h1 := ch_mul n k
    have h2 := ch_mul n (k + 1)
    have e : ch (n + 2) (k + 2) = ch (n + 1) (k + 1) + ch (n + 1) (k + 2) := rfl
    have e2 : ch (n + 1) (k + 1) = ch n k + ch n (k + 1) := rfl
    rw [e, Nat.mul_add, h2, show k + 1 + 1 = (k + 1) + 1 from rfl, Nat.add_mul (k + 1) 1, h1, Nat.one_mul, show n + 1 + 1 = (n + 1) + 1 from rfl, Nat.add_mul (n + 1) 1, Nat.one_mul]
    have e3 : (n + 1) * ch (n + 1) (k + 1) = (n + 1) * ch n k + (n + 1) * ch n (k + 1) := by rw [e2, Nat.mul_add]
    omega
noncomputable def bs (n a : Nat) : Nat → Nat
  | 0 => 0
  | j + 1 => bs n a j + ch n j * a ^ j
theorem bs_succ (n a : Nat) : ∀ j, bs (n + 1) a (j + 1) = bs n a (j + 1) + a * bs n a j
  | 0 => by simp [bs, ch_zero]
  | j + 1 => by
    have ih := bs_succ n a j
    have e : ch (n + 1) (j + 1) = ch n j + ch n (j + 1) := rfl
    show bs (n + 1) a (j + 1) + ch (n + 1) (j + 1) * a ^ (j + 1) = (bs n a (j + 1) + ch n (j + 1) * a ^ (j + 1)) + a * (bs n a j + ch n j * a ^ j)
    rw [ih, e, Nat.add_mul, Nat.mul_add, Nat.pow_succ]
    have : ch n j * (a ^ j * a) = a * (ch n j * a ^ j) := by rw [← Nat.mul_assoc, Nat.mul_comm]
    omega
theorem binom (a : Nat) : ∀ n, (a + 1) ^ n = bs n a (n + 1)
  | 0 => by simp [bs, ch_zero]
  | n + 1 => by
    have e : bs n a (n + 2) = bs n a (n + 1) := by show bs n a (n + 1) + ch n (n + 1) * _ = _; rw [ch_lt (by omega)]; simp
    rw [bs_succ, e, ← binom a n, Nat.pow_succ, Nat.mul_add, Nat.mul_comm a]; omega
theorem bs_mod {p : Nat} (hp : IsPrime p) (a : Nat) : ∀ j, j < p → bs p a (j + 1) % p = 1 % p
  | 0, _ => by simp [bs, ch_zero]
  | j + 1, h => by
    have ih := bs_mod hp a j (by omega)
    have d : p ∣ ch p (j + 1) := by
      obtain ⟨n, rfl⟩ : ∃ n, p = n + 1 := ⟨p - 1, by omega⟩
      have m := ch_mul n j
      have : n + 1 ∣ (j + 1) * ch (n + 1) (j + 1) := ⟨_, m⟩
      refine (hp.dvd_mul this).resolve_left fun hd => ?_
      have := Nat.le_of_dvd (by omega) hd
      omega
    show (bs p a (j + 1) + ch p (j + 1) * a ^ (j + 1)) % p = 1 % p
    rw [Nat.add_mod, ih, Nat.mod_eq_zero_of_dvd (Nat.dvd_trans d (Nat.dvd_mul_right _ _))]
    simp
theorem fermat0 {p : Nat} (hp : IsPrime p) : ∀ a : Nat, a ^ p % p = a % p
  | 0 => by have := hp.two_le; rw [Nat.zero_pow (by omega)]
  | a + 1 => by
    have ih := fermat0 hp a
    have h2 := hp.two_le
    have m := bs_mod hp a (p - 1) (by omega)
    rw [show p - 1 + 1 = p by omega] at m
    rw [binom]
    show (bs p a p + ch p p * a ^ p) % p = _
    rw [ch_self, Nat.one_mul, Nat.add_mod, m, ih, ← Nat.add_mod, Nat.add_comm]
theorem fermat {p : Nat} (hp : IsPrime p) {a : Nat} (h : ¬ p ∣ a) : a ^ (p - 1) % p = 1 := by
  have h2 := hp.two_le
  have f := fermat0 hp a
  have e : a ^ p = a * a ^ (p - 1) := by rw [Nat.mul_comm, ← Nat.pow_succ]; congr 1; omega
  have pos : 1 ≤ a ^ (p - 1) := Nat.one_le_iff_ne_zero.mpr (by
    intro z
    have : a = 0 := Nat.eq_zero_of_not_pos fun hp => (Nat.ne_of_gt (Nat.pow_pos hp)) z
    exact h (this ▸ Nat.dvd_zero p))
  have d : p ∣ a * (a ^ (p - 1) - 1) := by
    rw [Nat.mul_sub, Nat.mul_one, ← e]
    have h1 := Nat.div_add_mod (a ^ p) p
    have h3 := Nat.div_add_mod a p
    refine ⟨a ^ p / p - a / p, ?_⟩
    rw [Nat.mul_sub]
    omega
  have d' := (hp.dvd_mul d).resolve_left h
  have : (a ^ (p - 1) - 1 + 1) % p = 1 % p := by rw [Nat.add_mod, Nat.mod_eq_zero_of_dvd d']; simp
  rw [Nat.sub_add_cancel pos, Nat.mod_eq_of_lt (show 1 < p by omega)] at this
  exact this

noncomputable def pm (n : Nat) : Nat → Nat → Nat → Nat
  | 0, _, _ => 1 % n
  | f + 1, b, e => if e = 0 then 1 % n else if e % 2 = 1 then b * pm n f (b * b % n) (e / 2) % n else pm n f (b * b % n) (e / 2)
theorem pm_eq (n : Nat) : ∀ (f b e : Nat), e < 2 ^ f → pm n f b e = b ^ e % n
  | 0, b, e, h => by rw [Nat.pow_zero] at h; rw [show e = 0 by omega]; rfl
  | f + 1, b, e, h => by
    rw [Nat.pow_succ] at h
    have ih := pm_eq n f (b * b % n) (e / 2) (by omega)
    have sq : (b * b % n) ^ (e / 2) % n = b ^ (2 * (e / 2)) % n := by rw [← Nat.pow_mod, Nat.pow_mul, Nat.pow_two]
    unfold pm
    split
    · next h0 => rw [h0]; rfl
    split
    · next h1 =>
      rw [ih, sq, Nat.mul_mod, Nat.mod_mod, ← Nat.mul_mod, ← Nat.pow_succ', show (2 * (e / 2)).succ = e by omega]
    · next h1 => rw [ih, sq, show 2 * (e / 2) = e by omega]

theorem one_mod_pow {x r : Nat} (h : x % r = 1 % r) (k : Nat) : x ^ k % r = 1 % r := by
  rw [Nat.pow_mod, h, ← Nat.pow_mod, Nat.one_pow]
theorem gcd_pow {x r : Nat} : ∀ m n : Nat, x ^ m % r = 1 % r → x ^ n % r = 1 % r → x ^ Nat.gcd m n % r = 1 % r := by
  intro m n
  induction m, n using Nat.gcd.induction with
  | H0 n => intro _ h; rwa [Nat.gcd_zero_left]
  | H1 m n hm ih =>
    intro h1 h2
    rw [Nat.gcd_rec]
    refine ih ?_ h1
    have e : x ^ n = (x ^ m) ^ (n / m) * x ^ (n % m) := by rw [← Nat.pow_mul, ← Nat.pow_add, Nat.div_add_mod]
    rw [e, Nat.mul_mod, one_mod_pow h1, ← Nat.mul_mod, Nat.one_mul] at h2
    exact h2

theorem pock {N p a : Nat} (hp : IsPrime p) (hd : p ∣ N - 1) (h1 : a ^ (N - 1) % N = 1) (hN : 1 < N)
    (hg : Nat.gcd (a ^ ((N - 1) / p) % N + N - 1) N = 1) {r : Nat} (hr : IsPrime r) (hrN : r ∣ N) : p ∣ r - 1 := by
  have r2 := hr.two_le
  have bp : (a ^ ((N - 1) / p)) ^ p = a ^ (N - 1) := by rw [← Nat.pow_mul, Nat.div_mul_cancel hd]
  have m1 : (a ^ ((N - 1) / p)) ^ p % r = 1 % r := by
    rw [bp, ← Nat.mod_mod_of_dvd _ hrN, h1]
  have ne : ¬ (a ^ ((N - 1) / p)) % r = 1 % r := by
    intro h
    have h' : r ∣ a ^ ((N - 1) / p) % N + N - 1 := by
      have e1 : (a ^ ((N - 1) / p) % N) % r = 1 % r := by rw [Nat.mod_mod_of_dvd _ hrN, h]
      obtain ⟨k, hk⟩ := hrN
      have e2 := Nat.div_add_mod (a ^ ((N - 1) / p) % N) r
      rw [e1, Nat.mod_eq_of_lt (show 1 < r by omega)] at e2
      refine ⟨a ^ ((N - 1) / p) % N / r + k, ?_⟩
      rw [Nat.mul_add, ← hk]
      omega
    have := Nat.dvd_gcd h' hrN
    rw [hg] at this
    have := Nat.le_of_dvd (by decide) this
    omega
  have nd : ¬ r ∣ a ^ ((N - 1) / p) := by
    intro h
    have h2 := Nat.mod_eq_zero_of_dvd (Nat.dvd_trans h (Nat.dvd_mul_right _ ((a ^ ((N - 1) / p)) ^ (p - 1))))
    rw [Nat.mul_comm, ← Nat.pow_succ, show (p - 1).succ = p by have := hp.two_le; omega, m1, Nat.mod_eq_of_lt (show 1 < r by omega)] at h2
    omega
  have f := (fermat hr nd).trans (Nat.mod_eq_of_lt (show 1 < r by omega)).symm
  rcases hp.only _ (Nat.gcd_dvd_left p (r - 1)) with e | e
  · have := gcd_pow p (r - 1) m1 f
    rw [e, Nat.pow_one] at this
    exact absurd this ne
  · exact e ▸ Nat.gcd_dvd_right p (r - 1)

theorem exists_prime : ∀ (n : Nat), 2 ≤ n → ∃ r, IsPrime r ∧ r ∣ n := by
  intro n
  induction n using Nat.strongRecOn with
  | ind n ih =>
    intro h
    by_cases hp : ∀ m, m ∣ n → m = 1 ∨ m = n
    · exact ⟨n, ⟨h, hp⟩, Nat.dvd_refl n⟩
    · obtain ⟨m, hm⟩ := Classical.not_forall.mp hp
      have hm1 : m ∣ n ∧ m ≠ 1 ∧ m ≠ n := ⟨Classical.byContradiction fun c => hm fun d => absurd d c, fun c => hm fun _ => .inl c, fun c => hm fun _ => .inr c⟩
      have le := Nat.le_of_dvd (by omega) hm1.1
      have m0 : m ≠ 0 := fun z => by have := hm1.1; rw [z, Nat.zero_dvd] at this; omega
      obtain ⟨r, hr, hd⟩ := ih m (by omega) (by omega)
      exact ⟨r, hr, Nat.dvd_trans hd hm1.1⟩

theorem prime_of {N F : Nat} (hN : 1 < N) (hF : ∀ r, IsPrime r → r ∣ N → F ∣ r - 1) (hs : N < (F + 1) * (F + 1)) : IsPrime N := by
  refine ⟨hN, fun m hm => ?_⟩
  refine Classical.byContradiction fun c => ?_
  have hm1 : m ≠ 1 := fun e => c (.inl e)
  have hm2 : m ≠ N := fun e => c (.inr e)
  obtain ⟨k, hk⟩ := hm
  have m0 : m ≠ 0 := fun e => by rw [e, Nat.zero_mul] at hk; omega
  have k0 : k ≠ 0 := fun e => by rw [e, Nat.mul_zero] at hk; omega
  have k1 : k ≠ 1 := fun e => by rw [e, Nat.mul_one] at hk; exact hm2 hk.symm
  have big : ∀ x, 2 ≤ x → x ∣ N → F + 1 ≤ x := by
    intro x hx hxN
    obtain ⟨r, hr, hd⟩ := exists_prime x hx
    have h2 := hr.two_le
    have := Nat.le_of_dvd (by omega) (hF r hr (Nat.dvd_trans hd hxN))
    have := Nat.le_of_dvd (by omega) hd
    omega
  have b1 := big m (by omega) ⟨k, hk⟩
  have b2 := big k (by omega) ⟨m, by rw [hk, Nat.mul_comm]⟩
  have := Nat.mul_le_mul b1 b2
  omega

/-- one Pocklington step, checked by evaluation -/
def pockB (N p f : Nat) : Bool := decide ((N - 1) % p = 0) && decide (pm N f 2 (N - 1) = 1) && decide (1 < N) && decide (Nat.gcd (pm N f 2 ((N - 1) / p) + N - 1) N = 1) && decide (N < 2 ^ f)
theorem pock_of {N p f : Nat} (hp : IsPrime p) (h : pockB N p f = true) : ∀ r, IsPrime r → r ∣ N → p ∣ r - 1 := by
  unfold pockB at h
  simp only [Bool.and_eq_true, decide_eq_true_eq] at h
  obtain ⟨⟨⟨⟨a, b⟩, c⟩, d⟩, e⟩ := h
  have le : (N - 1) / p ≤ N - 1 := Nat.div_le_self _ _
  rw [pm_eq _ _ _ _ (by omega)] at b d
  exact fun r hr hd => pock hp (Nat.dvd_of_mod_eq_zero a) b c d hr hd
theorem prime1 {N : Nat} (p f : Nat) (hp : IsPrime p) (h : pockB N p f = true) (hs : decide (N < (p + 1) * (p + 1)) = true) : IsPrime N :=
  prime_of (by unfold pockB at h; simp only [Bool.and_eq_true, decide_eq_true_eq] at h; exact h.1.1.2) (pock_of hp h) (by simpa using hs)
theorem prime2 {N : Nat} (p p' f : Nat) (hp : IsPrime p) (hp' : IsPrime p') (h : pockB N p f = true) (h' : pockB N p' f = true) (hs : (decide (N < (p * p' + 1) * (p * p' + 1)) && decide (p' ≠ p)) = true) : IsPrime N := by
  simp only [Bool.and_eq_true, decide_eq_true_eq] at hs
  have hc : Nat.Coprime p p' := hp.coprime fun d => (hp'.only _ d).elim (fun e => by have := hp.two_le; omega) fun e => hs.2 e.symm
  exact prime_of (by unfold pockB at h; simp only [Bool.and_eq_true, decide_eq_true_eq] at h; exact h.1.1.2) (fun r hr hd => hc.mul_dvd_of_dvd_of_dvd (pock_of hp h r hr hd) (pock_of hp' h' r hr hd)) hs.1
theorem prime0 {N : Nat} (h : (decide (2 ≤ N) && (List.range N).all fun m => decide (m ≤ 1) || decide (N % m ≠ 0)) = true) : IsPrime N := by
  simp only [Bool.and_eq_true, decide_eq_true_eq, List.all_eq_true, List.mem_range, Bool.or_eq_true] at h
  refine ⟨h.1, fun m hm => ?_⟩
  have le := Nat.le_of_dvd (by omega) hm
  rcases Nat.lt_or_eq_of_le le with l | l
  · rcases h.2 m l with a | a
    · have : m ≠ 0 := fun z => by rw [z, Nat.zero_dvd] at hm; omega
      exact .inl (by omega)
    · exact absurd (Nat.mod_eq_zero_of_dvd hm) a
  · exact .inr l

theorem p1723 : IsPrime 1723 := prime0 (by decide +kernel)
theorem p3797 : IsPrime 3797 := prime0 (by decide +kernel)
theorem p419 : IsPrime 419 := prime0 (by decide +kernel)
theorem p97 : IsPrime 97 := prime0 (by decide +kernel)
theorem p2551 : IsPrime 2551 := prime0 (by decide +kernel)
theorem p991 : IsPrime 991 := prime0 (by decide +kernel)
theorem p103 : IsPrime 103 := prime0 (by decide +kernel)
theorem p127 : IsPrime 127 := prime0 (by decide +kernel)
theorem p4153 : IsPrime 4153 := prime0 (by decide +kernel)
theorem p430751 : IsPrime 430751 := prime1 1723 20 p1723 (by decide +kernel) (by decide +kernel)
theorem p531581 : IsPrime 531581 := prime1 3797 20 p3797 (by decide +kernel) (by decide +kernel)
theorem p569003 : IsPrime 569003 := prime2 419 97 20 p419 p97 (by decide +kernel) (by decide +kernel) (by decide +kernel)
theorem p1224481 : IsPrime 1224481 := prime1 2551 21 p2551 (by decide +kernel) (by decide +kernel)
theorem p8574133 : IsPrime 8574133 := prime2 991 103 24 p991 p103 (by decide +kernel) (by decide +kernel) (by decide +kernel)
theorem p2773320623 : IsPrime 2773320623 := prime1 569003 32 p569003 (by decide +kernel) (by decide +kernel)
theorem p72106336199 : IsPrime 72106336199 := prime1 2773320623 40 p2773320623 (by decide +kernel) (by decide +kernel)
theorem p1257559732178653 : IsPrime 1257559732178653 := prime2 1224481 531581 52 p1224481 p531581 (by decide +kernel) (by decide +kernel) (by decide +kernel)
theorem p1919519569386763 : IsPrime 1919519569386763 := prime2 8574133 127 52 p8574133 p127 (by decide +kernel) (by decide +kernel) (by decide +kernel)
theorem p31757755568855353 : IsPrime 31757755568855353 := prime2 430751 4153 56 p430751 p4153 (by decide +kernel) (by decide +kernel) (by decide +kernel)
theorem p4434155615661930479 : IsPrime 4434155615661930479 := prime1 1257559732178653 64 p1257559732178653 (by decide +kernel) (by decide +kernel)
theorem p172054593956031949258510691 : IsPrime 172054593956031949258510691 := prime1 4434155615661930479 90 p4434155615661930479 (by decide +kernel) (by decide +kernel)
theorem p75445702479781427272750846543864801 : IsPrime 75445702479781427272750846543864801 := prime2 1919519569386763 72106336199 120 p1919519569386763 p72106336199 (by decide +kernel) (by decide +kernel) (by decide +kernel)
theorem p19757330305831588566944191468367130476339 : IsPrime 19757330305831588566944191468367130476339 := prime1 172054593956031949258510691 140 p172054593956031949258510691 (by decide +kernel) (by decide +kernel)
theorem p276602624281642239937218680557139826668747 : IsPrime 276602624281642239937218680557139826668747 := prime1 19757330305831588566944191468367130476339 140 p19757330305831588566944191468367130476339 (by decide +kernel) (by decide +kernel)
theorem p74058212732561358302231226437062788676166966415465897661863160754340907 : IsPrime 74058212732561358302231226437062788676166966415465897661863160754340907 := prime2 75445702479781427272750846543864801 31757755568855353 240 p75445702479781427272750846543864801 p31757755568855353 (by decide +kernel) (by decide +kernel) (by decide +kernel)
/-- the order of the base point is a prime -/
theorem prime_L : IsPrime 7237005577332262213973186563042994240857116359379907606001950938285454250989 := prime1 276602624281642239937218680557139826668747 256 p276602624281642239937218680557139826668747 (by decide +kernel) (by decide +kernel)
/-- 2^255 - 19 is a prime -/
theorem prime_q : IsPrime 57896044618658097711785492504343953926634992332820282019728792003956564819949 := prime1 74058212732561358302231226437062788676166966415465897661863160754340907 256 p74058212732561358302231226437062788676166966415465897661863160754340907 (by decide +kernel) (by decide +kernel)
end
end Mine

namespace Mine
noncomputable section
open Lean.Grind
namespace Cv
variable {K : Type} [CommRing K] {C : Cv K}
def Pt.zs (P : C.Pt) (m : Int) : C.Pt := if 0 ≤ m then Pt.smul m.toNat P else (Pt.smul (-m).toNat P).neg
theorem Pt.zs_sub (P : C.Pt) (m n : Nat) : P.zs ((m : Int) - n) = (Pt.smul m P).add (Pt.smul n P).neg := by
  unfold Pt.zs
  split
  · next h =>
    obtain ⟨k, rfl⟩ : ∃ k, m = k + n := ⟨m - n, by omega⟩
    rw [show (((k + n : Nat) : Int) - n).toNat = k by omega, Pt.smul_add, Pt.add_assoc, Pt.add_neg, Pt.add_zero]
  · next h =>
    obtain ⟨k, rfl⟩ : ∃ k, n = k + m := ⟨n - m, by omega⟩
    rw [show (-((m : Int) - ((k + m : Nat) : Int))).toNat = k by omega, Pt.smul_add, Pt.neg_add, Pt.add_comm _ (Pt.smul m P).neg, ← Pt.add_assoc, Pt.add_neg, Pt.zero_add]
theorem Pt.zs_add (P : C.Pt) (a b : Int) : P.zs (a + b) = (P.zs a).add (P.zs b) := by
  have e : ∀ a : Int, a = (a.toNat : Int) - ((-a).toNat : Int) := fun a => by omega
  have ha := Pt.zs_sub P a.toNat (-a).toNat
  have hb := Pt.zs_sub P b.toNat (-b).toNat
  have hc := Pt.zs_sub P (a.toNat + b.toNat) ((-a).toNat + (-b).toNat)
  rw [← e] at ha hb
  rw [show ((a.toNat + b.toNat : Nat) : Int) - (((-a).toNat + (-b).toNat : Nat) : Int) = a + b by omega] at hc
  rw [ha, hb, hc, Pt.smul_add, Pt.smul_add, Pt.neg_add, Pt.add4]
theorem Pt.zs_zero (P : C.Pt) : P.zs 0 = .zero := rfl
theorem Pt.zs_neg (P : C.Pt) (a : Int) : P.zs (-a) = (P.zs a).neg := by
  refine Pt.eq_neg ?_
  rw [← Pt.zs_add, show a + -a = 0 by omega, Pt.zs_zero]
theorem Pt.zs_mul (P : C.Pt) (a : Int) : ∀ n : Nat, P.zs (n * a) = Pt.smul n (P.zs a)
  | 0 => by rw [show ((0 : Nat) : Int) * a = 0 by omega]; rfl
  | n + 1 => by
    have : ((n + 1 : Nat) : Int) * a = a + (n : Int) * a := by rw [Int.natCast_add, Int.add_mul]; omega
    rw [this, Pt.zs_add, Pt.zs_mul P a n]; rfl
theorem Pt.zs_abs (P : C.Pt) {a : Int} (h : P.zs a = .zero) : Pt.smul a.natAbs P = .zero := by
  unfold Pt.zs at h
  split at h
  · rwa [show a.natAbs = a.toNat by omega]
  · rw [show a.natAbs = (-a).toNat by omega]; exact Pt.neg_inj (h.trans Pt.neg_zero.symm)
theorem Pt.smul_gcd (P : C.Pt) : ∀ m n : Nat, Pt.smul m P = .zero → Pt.smul n P = .zero → Pt.smul (Nat.gcd m n) P = .zero := by
  intro m n
  induction m, n using Nat.gcd.induction with
  | H0 n => intro _ h; rwa [Nat.gcd_zero_left]
  | H1 m n hm ih =>
    intro h1 h2
    rw [Nat.gcd_rec]
    refine ih ?_ h1
    rw [← Nat.div_add_mod n m, Pt.smul_add, Nat.mul_comm, Pt.smul_mul, h1, Pt.smul_zero, Pt.zero_add] at h2
    exact h2
end Cv

/-- what is known of the base point and of the point of order 8 -/
structure Base {K : Type} [CommRing K] (C : Cv K) where
  B : C.Pt
  T : C.Pt
  L : Nat
  prime : IsPrime L
  big : 2 ^ 80 < L
  ordB : Cv.Pt.smul L B = .zero
  neB : B ≠ .zero
  ordT : Cv.Pt.smul 8 T = .zero
  neT : Cv.Pt.smul 4 T ≠ .zero
namespace Base
open Cv
variable {K : Type} [CommRing K] {C : Cv K} (b : Base C)
theorem ord {n : Nat} (h : Pt.smul n b.B = .zero) : b.L ∣ n := by
  have g := Pt.smul_gcd b.B b.L n b.ordB h
  rcases b.prime.only _ (Nat.gcd_dvd_left b.L n) with e | e
  · rw [e, Pt.smul_one] at g; exact absurd g b.neB
  · exact e ▸ Nat.gcd_dvd_right b.L n
theorem zord {a : Int} (h : b.B.zs a = .zero) (hs : a.natAbs ≤ 2 ^ 80) : a = 0 := by
  have d := b.ord (Pt.zs_abs _ h)
  have := b.big
  rcases Nat.eq_zero_or_pos a.natAbs with e | e
  · omega
  · have := Nat.le_of_dvd e d; omega
def pt (m t : Int) : C.Pt := (b.B.zs m).add (Pt.smul t.toNat b.T)
theorem smul_mod8 (n : Nat) : Pt.smul (n % 8) b.T = Pt.smul n b.T := by
  have h : Pt.smul n b.T = Pt.smul (8 * (n / 8) + n % 8) b.T := by rw [Nat.div_add_mod]
  rw [h, Pt.smul_add, Nat.mul_comm, Pt.smul_mul, b.ordT, Pt.smul_zero, Pt.zero_add]
theorem pt_add (m1 t1 m2 t2 : Int) (h1 : 0 ≤ t1) (h2 : 0 ≤ t2) : (b.pt m1 t1).add (b.pt m2 t2) = b.pt (m1 + m2) ((t1 + t2).fmod 8) := by
  unfold pt
  have e : ((t1 + t2).fmod 8).toNat = (t1.toNat + t2.toNat) % 8 := by
    rw [Int.fmod_eq_emod_of_nonneg _ (by decide)]; omega
  rw [Pt.add4, ← Pt.zs_add, e, b.smul_mod8, Pt.smul_add]
theorem smul8 (k : Nat) (m t : Int) : Pt.smul (8 * k) (b.pt m t) = Pt.smul (8 * k) (b.B.zs m) := by
  unfold pt
  rw [Pt.smul_addP, ← Pt.smul_mul, show 8 * k * t.toNat = k * t.toNat * 8 by rw [Nat.mul_comm 8, Nat.mul_right_comm], Pt.smul_mul _ 8, b.ordT, Pt.smul_zero, Pt.add_zero]
theorem pt_zero {m t : Int} (hm : m.natAbs ≤ 1000) (h1 : 0 ≤ t) (h2 : t < 8) : b.pt m t = .zero ↔ m = 0 ∧ t = 0 := by
  constructor
  · intro h
    have e := b.smul8 1 m t
    rw [h, Pt.smul_zero, ← Pt.zs_mul] at e
    have z := b.zord e.symm (by omega)
    have m0 : m = 0 := by omega
    subst m0
    refine ⟨rfl, ?_⟩
    unfold pt at h
    rw [Pt.zs_zero, Pt.zero_add] at h
    have g := Pt.smul_gcd b.T _ _ b.ordT h
    refine Classical.byContradiction fun t0 => b.neT ?_
    have : ∀ n : Nat, n < 8 → n ≠ 0 → Nat.gcd 8 n ∣ 4 := by decide
    obtain ⟨k, hk⟩ := this t.toNat (by omega) (by omega)
    rw [hk, Nat.mul_comm, Pt.smul_mul, g, Pt.smul_zero]
  · rintro ⟨rfl, rfl⟩
    exact Pt.add_zero _
theorem apart {m t : Int} (hm : m.natAbs ≤ 1000) (h0 : m ≠ 0) (j : Nat) (hj : j < 2 ^ 62) : ((Pt.smul (2 * j) (b.pt m t)).add (b.pt m t).neg).x ≠ 0 ∧ ((Pt.smul (2 * j) (b.pt m t)).add (b.pt m t).neg).y ≠ 0 := by
  have main : Pt.smul 4 ((Pt.smul (2 * j) (b.pt m t)).add (b.pt m t).neg) ≠ .zero := by
    intro h
    have h8 : Pt.smul 8 (Pt.smul 4 ((Pt.smul (2 * j) (b.pt m t)).add (b.pt m t).neg)) = .zero := by rw [h, Pt.smul_zero]
    rw [← Pt.smul_mul, Pt.smul_addP, Pt.smul_neg, ← Pt.smul_mul, show 8 * 4 * (2 * j) = 8 * (8 * j) by omega, b.smul8, b.smul8 4, ← Pt.zs_mul, ← Pt.zs_mul, ← Pt.zs_neg, ← Pt.zs_add] at h8
    have e : ((8 * (8 * j) : Nat) : Int) * m + -(((8 * 4 : Nat) : Int) * m) = (64 * j - 32) * m := by
      rw [← Int.neg_mul, ← Int.add_mul]; congr 1; omega
    rw [e] at h8
    have z := b.zord h8 (by
      rw [Int.natAbs_mul]
      refine Nat.le_trans (Nat.mul_le_mul (show (64 * (j : Int) - 32).natAbs ≤ 2 ^ 68 by omega) hm) (by decide))
    rcases Int.mul_eq_zero.mp z with h | h
    · omega
    · exact h0 h
  exact ⟨fun e => main (Pt.four_of_x e), fun e => main (Pt.four_of_y e)⟩
end Base
end
end Mine

namespace Mine
noncomputable section
open Lean.Grind
abbrev qn : Nat := 57896044618658097711785492504343953926634992332820282019728792003956564819949
abbrev q : Int := 57896044618658097711785492504343953926634992332820282019728792003956564819949
abbrev dd : Int := -4513249062541557337682894930092624173785641285191125241628941591882900924598840740
abbrev dv : Int := 37095705934669439343138083508754565189542113879843219016388785533085940283555
abbrev Fq := Fin qn

def φ (x : Int) : Fq := (Ring.intCast (α := Fq)).intCast x
theorem φ_add (x y : Int) : φ (x + y) = φ x + φ y := Ring.intCast_add x y
theorem φ_sub (x y : Int) : φ (x - y) = φ x - φ y := Ring.intCast_sub x y
theorem φ_mul (x y : Int) : φ (x * y) = φ x * φ y := Ring.intCast_mul x y
theorem φ_neg (x : Int) : φ (-x) = -φ x := Ring.intCast_neg x
theorem φ_zero_iff (x : Int) : φ x = 0 ↔ x % q = 0 := IsCharP.intCast_eq_zero_iff qn x
theorem φ_ext_iff {x y : Int} : φ x = φ y ↔ x % q = y % q := IsCharP.intCast_ext_iff qn
theorem φ_fmod (x : Int) : φ (x.fmod q) = φ x := by
  rw [Int.fmod_eq_emod_of_nonneg _ (by decide)]; exact IsCharP.intCast_emod qn x
theorem φ_0 : φ 0 = 0 := by decide +kernel
theorem φ_1 : φ 1 = 1 := by decide +kernel
theorem φ_2 : φ 2 = 2 := by decide +kernel
theorem φ_nat (a : Nat) : φ (a : Int) = Fin.ofNat qn a := Ring.intCast_natCast (α := Fq) a
theorem φ_val (a : Fq) : φ (a.val : Int) = a := by
  rw [φ_nat]
  exact Fin.ext (Nat.mod_eq_of_lt a.isLt)
theorem φ_pos (x : Int) (h : 0 ≤ x) : φ x = Fin.ofNat qn x.toNat := by
  rw [← φ_nat, Int.toNat_of_nonneg h]

theorem fin_mul (a b : Fq) : (a * b).val = a.val * b.val % qn := rfl
def iv (a : Fq) : Fq := Fin.ofNat qn (pm qn 256 a.val (qn - 2))
theorem fin_ne {a : Fq} (h : a ≠ 0) : ¬ qn ∣ a.val := fun hd => by
  have l := a.isLt
  rcases Nat.eq_zero_or_pos a.val with z | z
  · exact h (Fin.ext z)
  · have := Nat.le_of_dvd z hd; omega
theorem iv_mul (a : Fq) (h : a ≠ 0) : a * iv a = 1 := by
  refine Fin.ext ?_
  rw [fin_mul]
  have f := fermat prime_q (fin_ne h)
  have e : (iv a).val = a.val ^ (qn - 2) % qn := by
    show pm qn 256 a.val (qn - 2) % qn = _
    rw [pm_eq qn 256 a.val (qn - 2) (by decide), Nat.mod_mod]
  rw [e, Nat.mul_mod, Nat.mod_mod, ← Nat.mul_mod, ← Nat.pow_succ', show (qn - 2).succ = qn - 1 by rfl]
  exact f
def dF : Fq := φ dv
def iF : Fq := φ 19681161376707505956807079304988542015446066515923890162744021073123829784752
theorem iF_sq : iF * iF = -1 := by decide +kernel
theorem nsq_nat {p h f c : Nat} (hp : IsPrime p) (hh : p - 1 = 2 * h) (hc : c ≠ 0) (hf : h < 2 ^ f) (e : pm p f c h ≠ 1) (s : Nat) : s * s % p ≠ c := by
  intro hv
  have ns : ¬ p ∣ s := fun hd => by
    rw [Nat.mod_eq_zero_of_dvd (Nat.dvd_trans hd (Nat.dvd_mul_right _ _))] at hv
    exact hc hv.symm
  have g := fermat hp ns
  rw [hh, Nat.pow_mul, Nat.pow_two, Nat.pow_mod, hv, ← pm_eq p f _ _ hf] at g
  exact e g
theorem dF_nsq (s : Fq) : s * s ≠ dF := by
  intro h
  refine nsq_nat (h := 28948022309329048855892746252171976963317496166410141009864396001978282409974) (f := 256) prime_q (by decide) (c := 37095705934669439343138083508754565189542113879843219016388785533085940283555) (by decide) (by decide) (by decide +kernel) s.val ?_
  rw [← fin_mul, h]; decide +kernel
def cv : Cv Fq where
  d := dF
  i := iF
  iv := iv
  hi := iF_sq
  hinv := iv_mul
  nsq := dF_nsq
  one_ne := by decide +kernel
  two_ne := by decide +kernel
end
end Mine

namespace Mine
noncomputable section
open Lean.Grind Cv
abbrev T3 := Int × Int × Int
abbrev T4 := Int × Int × Int × Int
abbrev Pnt := cv.Pt
def Rp3 (t : T3) (P : Pnt) : Prop := Rep3 (φ t.1) (φ t.2.1) (φ t.2.2) P
def Rp4 (t : T4) (P : Pnt) : Prop := Rep4 (φ t.1) (φ t.2.1) (φ t.2.2.1) (φ t.2.2.2) P
def R (x : Int) : Prop := 0 ≤ x ∧ x < q
theorem R_fmod (x : Int) : R (x.fmod q) := by
  rw [Int.fmod_eq_emod_of_nonneg _ (by decide)]
  exact ⟨Int.emod_nonneg _ (by decide), Int.emod_lt_of_pos _ (by decide)⟩
theorem φ_dv : φ dv = cv.d := rfl
theorem φ_dd : φ dd = cv.d := by decide +kernel
theorem R.zero_iff {x : Int} (h : R x) : φ x = 0 ↔ x = 0 := by
  rw [φ_zero_iff, Int.emod_eq_of_lt h.1 h.2]
theorem R.ext_iff {x y : Int} (h : R x) (k : R y) : φ x = φ y ↔ x = y := by
  rw [φ_ext_iff, Int.emod_eq_of_lt h.1 h.2, Int.emod_eq_of_lt k.1 k.2]

def lawAdd (p r : T3) : T3 :=
  let both := (p.2.2 * r.2.2).fmod q
  let square := (both * both).fmod q
  let xx := (p.1 * r.1).fmod q
  let yy := (p.2.1 * r.2.1).fmod q
  let mixed := (dv * xx * yy).fmod q
  let less := square - mixed
  let more := square + mixed
  let cross := p.1 * r.2.1 + p.2.1 * r.1
  ((both * cross * less).fmod q, (both * (yy + xx) * more).fmod q, (less * more).fmod q)
theorem lawAdd_rep {p r : T3} {P Q : Pnt} (h : Rp3 p P) (k : Rp3 r Q) : Rp3 (lawAdd p r) (P.add Q) := by
  have := Rep3.add h k
  unfold Rp3 lawAdd
  simp only [φ_fmod, φ_mul, φ_add, φ_sub, φ_dv]
  exact this

def addE (p r : T4) : T4 :=
  let A := ((p.2.1 - p.1) * (r.2.1 - r.1)).fmod q
  let B := ((p.2.1 + p.1) * (r.2.1 + r.1)).fmod q
  let C := (p.2.2.2 * (2 * dd) * r.2.2.2).fmod q
  let D := (p.2.2.1 * 2 * r.2.2.1).fmod q
  let E := (B - A).fmod q
  let F := (D - C).fmod q
  let G := (D + C).fmod q
  let H := (B + A).fmod q
  ((E * F).fmod q, (G * H).fmod q, (F * G).fmod q, (E * H).fmod q)
theorem φ_2dd : φ (2 * dd) = 2 * cv.d := by rw [φ_mul, φ_2, φ_dd]
theorem addE_rep {p r : T4} {P Q : Pnt} (h : Rp4 p P) (k : Rp4 r Q) : Rp4 (addE p r) (P.add Q) := by
  have := Rep4.add h k rfl rfl rfl rfl rfl rfl rfl rfl
  unfold Rp4 addE
  simp only [φ_fmod, φ_mul, φ_add, φ_sub, φ_2dd, φ_2]
  exact this

def dblE (p : T4) : T4 :=
  let A := p.1 * p.1
  let B := p.2.1 * p.2.1
  let C := 2 * p.2.2.1 * p.2.2.1
  let D := (-A).fmod q
  let J := (p.1 + p.2.1).fmod q
  let E := (J * J - A - B).fmod q
  let G := (D + B).fmod q
  let F := (G - C).fmod q
  let H := (D - B).fmod q
  ((E * F).fmod q, (G * H).fmod q, (F * G).fmod q, (E * H).fmod q)
theorem dblE_rep {p : T4} {P : Pnt} (h : Rp4 p P) : Rp4 (dblE p) (P.add P) := by
  have := Rep4.dbl h.three rfl rfl rfl rfl rfl rfl rfl rfl rfl
  unfold Rp4 dblE
  simp only [φ_fmod, φ_mul, φ_add, φ_sub, φ_neg, φ_2]
  exact this

def nonE (p r : T4) : T4 :=
  let A := ((p.2.1 - p.1) * (r.2.1 + r.1)).fmod q
  let B := ((p.2.1 + p.1) * (r.2.1 - r.1)).fmod q
  let C := (p.2.2.1 * 2 * r.2.2.2).fmod q
  let D := (p.2.2.2 * 2 * r.2.2.1).fmod q
  let E := (D + C).fmod q
  let F := (B - A).fmod q
  let G := (B + A).fmod q
  let H := (D - C).fmod q
  ((E * F).fmod q, (G * H).fmod q, (F * G).fmod q, (E * H).fmod q)
theorem nonE_rep {p r : T4} {P Q : Pnt} (h : Rp4 p P) (k : Rp4 r Q) (hx0 : (P.add Q.neg).x ≠ 0) (hy0 : (P.add Q.neg).y ≠ 0) : Rp4 (nonE p r) (P.add Q) := by
  have := Rep4.nonu h k hx0 hy0 rfl rfl rfl rfl rfl rfl rfl rfl
  unfold Rp4 nonE
  simp only [φ_fmod, φ_mul, φ_add, φ_sub, φ_2]
  exact this

def extE (p : T3) (s : Int) : T4 := ((s * p.1 * p.2.2).fmod q, (s * p.2.1 * p.2.2).fmod q, (s * p.2.2 * p.2.2).fmod q, (s * p.1 * p.2.1).fmod q)
theorem extE_rep {p : T3} {P : Pnt} (h : Rp3 p P) {s : Int} (hs : φ s ≠ 0) : Rp4 (extE p s) P := by
  have := Rep3.ext4 h hs
  unfold Rp4 extE
  simp only [φ_fmod, φ_mul]
  exact this

noncomputable def timesI : Nat → Nat → T3 → T3 → T3
  | 0, _, _, tot => tot
  | f + 1, n, pt, tot => if n = 0 then tot else timesI f (n / 2) (lawAdd pt pt) (if n % 2 = 1 then lawAdd tot pt else tot)
theorem timesI_rep : ∀ (f n : Nat) {pt tot : T3} {P T : Pnt}, n < 2 ^ f → Rp3 pt P → Rp3 tot T → Rp3 (timesI f n pt tot) (T.add (Pt.smul n P))
  | 0, n, pt, tot, P, T, h, hp, ht => by
    rw [Nat.pow_zero] at h; rw [show n = 0 by omega]
    show Rp3 tot (T.add .zero)
    rw [Pt.add_zero]; exact ht
  | f + 1, n, pt, tot, P, T, h, hp, ht => by
    rw [Nat.pow_succ] at h
    unfold timesI
    split
    · next h0 => subst h0; show Rp3 tot (T.add .zero); rw [Pt.add_zero]; exact ht
    · split
      · next h1 =>
        have := timesI_rep f (n / 2) (by omega) (lawAdd_rep hp hp) (lawAdd_rep ht hp)
        rw [← Pt.smul_two, ← Pt.smul_mul, Pt.add_assoc] at this
        rw [show n = (n / 2 * 2) + 1 by omega]
        rw [show (n / 2 * 2 + 1) / 2 = n / 2 by omega]
        exact this
      · next h1 =>
        have := timesI_rep f (n / 2) (by omega) (lawAdd_rep hp hp) ht
        rw [← Pt.smul_two, ← Pt.smul_mul, show n / 2 * 2 = n by omega] at this
        exact this

abbrev base3 : T3 := (15112221349535400772501151409588531511454012693041857206046113283949847762202, 46316835694926478169428394003475163141307993866256225615783033603165251855960, 1)
abbrev eighth3 : T3 := (43496726750457979451437558183816721346016168361625936758514574428539776020131, 2707385501144840649318225287225658788936804267575313519463743609750303402022, 1)
def ptB : Pnt := ⟨φ 15112221349535400772501151409588531511454012693041857206046113283949847762202, φ 46316835694926478169428394003475163141307993866256225615783033603165251855960, by decide +kernel⟩
def ptT : Pnt := ⟨φ 43496726750457979451437558183816721346016168361625936758514574428539776020131, φ 2707385501144840649318225287225658788936804267575313519463743609750303402022, by decide +kernel⟩
theorem base_rep : Rp3 base3 ptB := ⟨by decide +kernel, by decide +kernel, by decide +kernel⟩
theorem eighth_rep : Rp3 eighth3 ptT := ⟨by decide +kernel, by decide +kernel, by decide +kernel⟩
theorem zero_rep : Rp3 (0, 1, 1) .zero := by
  have := Rep3.zero (C := cv)
  rw [← φ_0, ← φ_1] at this
  exact this
def LL : Nat := 7237005577332262213973186563042994240857116359379907606001950938285454250989
def zeroB (t : T3) : Bool := decide (t.1 % q = 0) && decide (t.2.1 % q = t.2.2 % q)
theorem zeroB_iff {t : T3} {P : Pnt} (h : Rp3 t P) : zeroB t = true ↔ P = .zero := by
  rw [Rep3.zero_iff h, φ_zero_iff, φ_ext_iff]
  unfold zeroB
  simp
theorem ordB : Pt.smul LL ptB = .zero := by
  have h := timesI_rep 253 LL (by decide) base_rep zero_rep
  rw [Pt.zero_add] at h
  rw [← zeroB_iff h]
  decide +kernel
end
end Mine

namespace Mine
noncomputable section
open Lean.Grind Cv
theorem ordT : Pt.smul 8 ptT = .zero := by
  have h := timesI_rep 4 8 (by decide) eighth_rep zero_rep
  rw [Pt.zero_add] at h
  rw [← zeroB_iff h]
  decide +kernel
theorem neT : Pt.smul 4 ptT ≠ .zero := by
  have h := timesI_rep 4 4 (by decide) eighth_rep zero_rep
  rw [Pt.zero_add] at h
  rw [Ne, ← zeroB_iff h]
  decide +kernel
theorem neB : ptB ≠ .zero := by
  rw [Ne, ← zeroB_iff base_rep]
  decide +kernel
def bb : Base cv where
  B := ptB
  T := ptT
  L := LL
  prime := prime_L
  big := by decide
  ordB := ordB
  neB := neB
  ordT := ordT
  neT := neT
/-- the group's words, closed against unfolding -/
@[irreducible] def padd (P Q : Pnt) : Pnt := P.add Q
@[irreducible] def psmul (n : Nat) (P : Pnt) : Pnt := Pt.smul n P
@[irreducible] def pO : Pnt := Pt.zero
@[irreducible] def pnt (m t : Int) : Pnt := bb.pt m t
@[irreducible] def pmain (m : Int) : Pnt := bb.B.zs m
@[irreducible] def ptor (t : Int) : Pnt := Pt.smul t.toNat ptT
@[irreducible] def pfar (P Q : Pnt) : Prop := (P.add Q.neg).x ≠ 0 ∧ (P.add Q.neg).y ≠ 0
theorem padd_def (P Q : Pnt) : padd P Q = P.add Q := by unfold padd; rfl
theorem psmul_def (n : Nat) (P : Pnt) : psmul n P = Pt.smul n P := by unfold psmul; rfl
theorem pO_def : pO = Pt.zero := by unfold pO; rfl
theorem pnt_def (m t : Int) : pnt m t = bb.pt m t := by unfold pnt; rfl
theorem pnt_add {m1 t1 m2 t2 : Int} (h1 : 0 ≤ t1) (h2 : 0 ≤ t2) : padd (pnt m1 t1) (pnt m2 t2) = pnt (m1 + m2) ((t1 + t2).fmod 8) := by
  simp only [padd_def, pnt_def]; exact bb.pt_add m1 t1 m2 t2 h1 h2
theorem pnt_parts (m t : Int) : pnt m t = padd (pmain m) (ptor t) := by
  simp only [padd_def, pnt_def]; unfold pmain ptor; rfl
theorem pnt_zero {m t : Int} (hm : m.natAbs ≤ 1000) (h1 : 0 ≤ t) (h2 : t < 8) : pnt m t = pO ↔ m = 0 ∧ t = 0 := by
  rw [pnt_def, pO_def]; exact bb.pt_zero hm h1 h2
theorem psmul_two (P : Pnt) : padd P P = psmul 2 P := by rw [padd_def, psmul_def, Pt.smul_two]
theorem psmul_mul (m n : Nat) (P : Pnt) : psmul (m * n) P = psmul m (psmul n P) := by simp only [psmul_def, Pt.smul_mul]
theorem psmul_zero (P : Pnt) : psmul 0 P = pO := by rw [psmul_def, pO_def]; rfl
theorem psmul_succ (n : Nat) (P : Pnt) : psmul (n + 1) P = padd (psmul n P) P := by
  simp only [psmul_def, padd_def]; rw [Pt.add_comm]; rfl
theorem padd_assoc (P Q S : Pnt) : padd (padd P Q) S = padd P (padd Q S) := by simp only [padd_def, Pt.add_assoc]
theorem padd_comm (P Q : Pnt) : padd P Q = padd Q P := by simp only [padd_def]; exact Pt.add_comm P Q
theorem padd_O (P : Pnt) : padd P pO = P := by rw [padd_def, pO_def, Pt.add_zero]
theorem pO_add (P : Pnt) : padd pO P = P := by rw [padd_def, pO_def, Pt.zero_add]
theorem pfar_of {m t : Int} (hm : m.natAbs ≤ 1000) (h0 : m ≠ 0) (j : Nat) (hj : j < 2 ^ 62) : pfar (psmul (2 * j) (pnt m t)) (pnt m t) := by
  rw [psmul_def, pnt_def]; unfold pfar; exact bb.apart hm h0 j hj

/-- a tuple of residues that stands for a point -/
structure S3 (P : Pnt) (t : T3) : Prop where
  r1 : R t.1
  r2 : R t.2.1
  r3 : R t.2.2
  rep : Rp3 t P
structure S4 (P : Pnt) (t : T4) : Prop where
  r1 : R t.1
  r2 : R t.2.1
  r3 : R t.2.2.1
  r4 : R t.2.2.2
  rep : Rp4 t P
theorem S3.add {P Q : Pnt} {p r : T3} (h : S3 P p) (k : S3 Q r) : S3 (padd P Q) (lawAdd p r) := ⟨R_fmod _, R_fmod _, R_fmod _, by rw [padd_def]; exact lawAdd_rep h.rep k.rep⟩
theorem S4.add {P Q : Pnt} {p r : T4} (h : S4 P p) (k : S4 Q r) : S4 (padd P Q) (addE p r) := ⟨R_fmod _, R_fmod _, R_fmod _, R_fmod _, by rw [padd_def]; exact addE_rep h.rep k.rep⟩
theorem S4.dbl {P : Pnt} {p : T4} (h : S4 P p) : S4 (padd P P) (dblE p) := ⟨R_fmod _, R_fmod _, R_fmod _, R_fmod _, by rw [padd_def]; exact dblE_rep h.rep⟩
theorem S4.non {P Q : Pnt} {p r : T4} (h : S4 P p) (k : S4 Q r) (hx : pfar P Q) : S4 (padd P Q) (nonE p r) := by
  unfold pfar at hx
  exact ⟨R_fmod _, R_fmod _, R_fmod _, R_fmod _, by rw [padd_def]; exact nonE_rep h.rep k.rep hx.1 hx.2⟩
theorem S3.ext {P : Pnt} {p : T3} (h : S3 P p) {s : Int} (h1 : 1 ≤ s) (h2 : s ≤ q - 1) : S4 P (extE p s) :=
  ⟨R_fmod _, R_fmod _, R_fmod _, R_fmod _, extE_rep h.rep (by rw [Ne, R.zero_iff ⟨by omega, by unfold q at *; omega⟩]; omega)⟩
theorem R_of {x : Int} (h : (decide (0 ≤ x) && decide (x < q)) = true) : R x := by simpa [R] using h
theorem S3.zero : S3 pO (0, 1, 1) := ⟨R_of (by decide), R_of (by decide), R_of (by decide), by rw [pO_def]; exact zero_rep⟩
theorem S4.zero : S4 pO (0, 1, 1, 0) := by
  refine ⟨R_of (by decide), R_of (by decide), R_of (by decide), R_of (by decide), ?_⟩
  rw [pO_def]
  have := Rep4.zero (C := cv)
  rw [← φ_0, ← φ_1] at this
  exact this
theorem S3.base : S3 ptB base3 := ⟨R_of (by decide), R_of (by decide), R_of (by decide), base_rep⟩
theorem S3.eighth : S3 ptT eighth3 := ⟨R_of (by decide), R_of (by decide), R_of (by decide), eighth_rep⟩
theorem S3.main_pos {m : Int} {t : T3} (h0 : 0 ≤ m) (h : S3 (psmul m.natAbs ptB) t) : S3 (pmain m) t := by
  have : pmain m = psmul m.natAbs ptB := by
    rw [psmul_def]; unfold pmain Pt.zs; rw [if_pos h0, show m.natAbs = m.toNat by omega]; rfl
  rwa [this]
theorem S3.main_neg {m x y z : Int} (h0 : ¬ 0 ≤ m) (h : S3 (psmul m.natAbs ptB) (x, y, z)) : S3 (pmain m) ((-x).fmod q, y, z) := by
  have e : pmain m = (Pt.smul m.natAbs ptB).neg := by
    unfold pmain Pt.zs; rw [if_neg h0, show m.natAbs = (-m).toNat by omega]; rfl
  rw [psmul_def] at h
  refine ⟨R_fmod _, h.r2, h.r3, ?_⟩
  rw [e]
  have := Rep3.neg h.rep
  unfold Rp3
  simp only [φ_fmod, φ_neg]
  exact this
theorem S3.tor {t : Int} {p : T3} (h : S3 (psmul t.toNat ptT) p) : S3 (ptor t) p := by
  have : ptor t = psmul t.toNat ptT := by rw [psmul_def]; unfold ptor; rfl
  rwa [this]
theorem S4.zero_iff {P : Pnt} {X Y Z T : Int} (h : S4 P (X, Y, Z, T)) : P = pO ↔ X = 0 ∧ Y = Z := by
  rw [pO_def, Rep3.zero_iff h.rep.three]
  show φ X = 0 ∧ φ Y = φ Z ↔ _
  rw [R.zero_iff h.r1, R.ext_iff h.r2 h.r3]
theorem S4.nz {P : Pnt} {X Y Z T : Int} (h : S4 P (X, Y, Z, T)) : Z ≠ 0 := fun e => h.rep.nz ((R.zero_iff h.r3).mpr e)
theorem S4.stands {P : Pnt} {X Y Z T x y z : Int} (h : S4 P (X, Y, Z, T)) (k : S3 P (x, y, z)) :
    (X * Y - Z * T).fmod q = 0 ∧ (X * z - x * Z).fmod q = 0 ∧ (Y * z - y * Z).fmod q = 0 := by
  have s := Cv.stands h.rep k.rep
  simp only [← φ_mul, ← φ_sub, φ_zero_iff] at s
  simp only [Int.fmod_eq_emod_of_nonneg _ (show (0:Int) ≤ q by decide)]
  exact s
end
end Mine

open PySem PySem.W PyProof.Rows
set_option maxRecDepth 100000
set_option maxHeartbeats 8000000
namespace Mine
open_top hd for PySem.Challenge.rw_jv0022_01
end Mine

namespace Mine
open PySem.Calls
theorem kind_pow : builtinKind "pow" = none := by decide +kernel
theorem plain_pow : plainId "pow" = true := by decide +kernel
theorem entry_pow : entryFor table "pow" = some Builtin.«pow» := entryFor_of_fast (by kernel_rfl)
theorem args_pow (a b c : Value) : argsOk "pow" ⟨[a, b, c], []⟩ := by unfold argsOk; kernel_rfl
section
variable {prog : Program} {w : World} {A : Around} {E : Value → Shared → Prop} {s : Shared} {x y m : Int} {t u v : Tok} {Q : Value → Shared → Prop}
theorem int_pow3 (hy : 0 ≤ y) (hm : 2 ≤ m) (h : Q (.int (Builtin.powMod (x % m).toNat y.natAbs m.natAbs : Nat) s.toks) { s with toks := s.toks + 1 }) :
    wpAny (model prog w) A (call (.builtin "int.__pow__") [.int x t, .int y u, .int m v]) (fun r s' => r ≠ .notImplemented ∧ Q r s') E s := by
  refine wpAny_call_entry F.slot_int_pow (typeIs_int s x t) F.entry_int_pow ?_ (F.args_int_pow_3 _ _ _)
  have e : ((m.natAbs : Nat) : Int) = m := by omega
  show wpAny _ _ (if (m == 0) = true then _ else _) _ _ s
  rw [if_neg (by simp; omega)]
  show wpAny _ _ (if (m.natAbs == 1) = true then _ else _) _ _ s
  rw [if_neg (by simp; omega)]
  dsimp only
  rw [if_neg (show ¬ y < 0 by omega), e, decide_eq_false (show ¬ m < 0 by omega)]
  refine wpAny_bind (wpAny_mkInt (wpAny_pure ?_))
  exact ⟨_, rfl, by simp, h⟩
theorem call_pow3 (hy : 0 ≤ y) (hm : 2 ≤ m) (h : Q (.int (Builtin.powMod (x % m).toNat y.natAbs m.natAbs : Nat) s.toks) { s with toks := s.toks + 1 }) :
    wpAny (model prog w) A (call (.builtin "pow") [.int x t, .int y u, .int m v]) Q E s := by
  refine call_function_entry kind_pow plain_pow entry_pow (args_pow _ _ _) ?_
  unfold Builtin.«pow»
  refine wpAny_bind (wpAny_of_eq (show Builtin.Builtins.bindParams "pow" ["base", "exp", "mod"] 2 ⟨[.int x t, .int y u, .int m v], []⟩ = pure [some (.int x t), some (.int y u), some (.int m v)] from rfl) ?_)
  dsimp only [Option.getD]
  refine wpAny_bind (wpAny_rule ?_)
  refine wpAny_bind (wpAny_typeOf (typeIs_int _ _ _) ?_)
  dsimp only
  refine wpAny_bind (wpAny_of_eq F.slot_int_pow.lookup ?_)
  dsimp only
  refine wpAny_bind (wpAny_callSpecial?_slot (typeIs_int _ _ _) F.slot_int_pow ?_)
  refine wpAny_mono (int_pow3 hy hm h) (fun r s' hr => ?_) fun _ _ h => h
  dsimp only
  rw [if_pos (by simpa using hr.1)]
  exact wpAny_pure ⟨_, rfl, hr.2⟩
end
end Mine

namespace Mine
open PySem.Calls LCg LCt
section
variable {prog : Program} {w : World} {A : Around} {E : Value → Shared → Prop} {s : Shared} {h₀ : Heap} {L : Addr} {m : Str → Option Value} {env : Env}
/-- a comprehension's source: a tuple of the ledger -/
def TupSrc (prog : Program) (w : World) (A : Around) (h₀ : Heap) (L : Addr) (m : Str → Option Value) (env : Env) (ct elt : Expr) (x : Str) (scope : Scope) (cl : List (Str × Addr)) (Fin : Shared → List Value → List (Addr × Obj) → Prop) (xv : Value) (s₁ : Shared) : Prop :=
  ∃ ax its k news, xv = .ref ax ∧ A.handled = none ∧ Fr h₀ L s₁.heap m ∧ News h₀ L s₁.heap news ∧ (ax, ({ cls := .type "tuple", data := .seq its k } : Obj)) ∈ news ∧ its.size ≤ sizeLine ∧
    ∀ g, CompRestT prog w A h₀ L m env ct elt x scope cl { s₁ with heap := g } (fun nw => (ax, ({ cls := .type "tuple", data := .seq its k } : Obj)) ∈ nw) (fun i v => its[i]? = some v) (Fin { s₁ with heap := g }) its.size 0 [] news
theorem TupSrc.mk {ct elt : Expr} {x : Str} {scope : Scope} {cl : List (Str × Addr)} {Fin : Shared → List Value → List (Addr × Obj) → Prop} {ax : Addr} {its : Array Value} {k : Nat} {news : List (Addr × Obj)} {s₁ : Shared}
    (hh : A.handled = none) (F : Fr h₀ L s₁.heap m) (N : News h₀ L s₁.heap news) (hm : (ax, ({ cls := .type "tuple", data := .seq its k } : Obj)) ∈ news) (hsz : its.size ≤ sizeLine)
    (h : ∀ g, CompRestT prog w A h₀ L m env ct elt x scope cl { s₁ with heap := g } (fun nw => (ax, ({ cls := .type "tuple", data := .seq its k } : Obj)) ∈ nw) (fun i v => its[i]? = some v) (Fin { s₁ with heap := g }) its.size 0 [] news) :
    TupSrc prog w A h₀ L m env ct elt x scope cl Fin (.ref ax) s₁ := ⟨ax, its, k, news, rfl, hh, F, N, hm, hsz, h⟩
theorem lc_tuple {ct elt iter : Expr} {x : Str} {px : Pos} {scope : Scope} {cl : List (Str × Addr)} {pos : Pos} {Q : Value → Shared → Prop} (F₀ : Fr h₀ L s.heap m)
    (hclos : closureFor scope env = pure cl) (hcell : ∀ y ∈ scope.names, y.2 ≠ .cell) (hkind : scope.kind = .function)
    (hnames : ∀ y ∈ scope.names, y.2 = .local → scope.names.lookup y.1 = some .local) (hx : scope.names.lookup x = some .local)
    (h : wpAny (model prog w) A (eval iter env) (TupSrc prog w A h₀ L m env ct elt x scope cl (fun s₂ => FinE h₀ L m s₂ Q)) E s)
    (hs : ∀ x, foldedSetIterable iter env x = pure x := by intro _; rfl) :
    wpAny (model prog w) A (eval (.ListComp elt [⟨.Name x px, iter, [ct], 0⟩] scope pos) env) Q E s := by
  rw [eval_ListComp]
  refine wpAny_comprehension_free (use := none) rfl hs hclos hkind hnames (wpAny_mono h (fun xv s₁ h₁ => ?_) fun _ _ e => e)
  obtain ⟨ax, its, k, news, rfl, hh, F, N, hm, hsz, rest⟩ := h₁
  have tup : s₁.heap.IsTuple ax its := ⟨_, (N _ hm).1, rfl, k, rfl⟩
  have small : ax < s₁.heap.objs.size := Heap.lt_size (N _ hm).1
  have grown : ∀ b o, s₁.heap.get? b = some o → (s₁.heap.push { cls := .type "tuple_iterator", data := .fields #[.ref ax, .int 0 0] }).get? b = some o := fun b o e => Heap.get?_push_of_some _ e
  refine wpAny_pyIter_tuple tup ?_
  refine block_T (S := fun nw => (ax, ({ cls := .type "tuple", data := .seq its k } : Obj)) ∈ nw) (Walks.tuple hh s₁.heap.objs.size ax (Nat.ne_of_lt small) its) hsz (fun i h st => by obtain ⟨o, e, _⟩ := st.1; exact ⟨o, e⟩) ?_ hcell hkind hx
    ⟨⟨_, Heap.get?_push_size _ rfl, rfl, rfl⟩, tup.push _⟩ (fun b hb => ?_) (F.keeps grown) (N.grown grown) (Nat.ne_of_lt F.ns.lt) (next_is_new F) (fun p hp => Nat.ne_of_lt (Heap.lt_size (N p hp).1)) hm (rest _) ?_
  · intro i h h' o nw st e e' _ N' hm'
    refine ⟨?_, ⟨_, (N' _ hm').1, rfl, k, rfl⟩⟩
    obtain ⟨o', e1, r⟩ := st.1
    rw [e] at e1
    cases e1
    exact ⟨o, e', r⟩
  · show b < (s₁.heap.push _).objs.size
    rw [Heap.size_push]
    rcases List.mem_cons.mp hb with rfl | hb
    · exact Nat.lt_succ_self _
    · rw [List.mem_singleton.mp hb]; exact Nat.lt_succ_of_lt small
  · intro D C h tk m' ys news' F' N' o1 hn hC₀ hD₀ hCL hDL hCD offC fin
    refine ⟨m', hn, fun h'' hs'' => fin D h'' tk (F'.change hs'' hCL hC₀) (fun p hp => ⟨hs''.extBut _ _ ?_ (N' p hp).1, (N' p hp).2⟩) o1⟩
    rcases List.mem_cons.mp hp with rfl | hp
    · exact Ne.symm hCD
    · exact offC p hp
end
end Mine

namespace Mine
open PySem.Builtin.Int (intBits)
theorem R.bits {x : Int} (h : R x) : intBits x ≤ 256 := intBits_le (by obtain ⟨h1, h2⟩ := h; unfold q at h2; omega)
theorem bits_q : intBits 57896044618658097711785492504343953926634992332820282019728792003956564819949 ≤ 256 := by decide +kernel
theorem bits_dd : intBits (-4513249062541557337682894930092624173785641285191125241628941591882900924598840740) ≤ 300 := by decide +kernel
theorem bits_dv : intBits 37095705934669439343138083508754565189542113879843219016388785533085940283555 ≤ 256 := by decide +kernel
local macro_rules | `(tactic| bits_by_make) => `(tactic| first | exact bits_q | exact bits_dd | exact bits_dv | exact R.bits (by with_reducible assumption))

abbrev Led := List (Addr × Obj)
abbrev tupO (vs : Array Value) (c : Nat) : Obj := { cls := .type "tuple", data := .seq vs c }

def Does (w : World) (f : Addr) (sz : Nat) (news : Led) (vs : List Value) (Ret : Heap → Addr → (Str → Option Value) → Shared → (Value → Shared → Prop) → Prop) : Prop :=
  ∀ (mean : ExcName → Option Value) (mg mb : Str → Option Value) (dp un : Nat) (gd : Option (List Code)) (cn : Str) (cs : Scope) (a : Addr) (ccd : Value) (cl : List (Str × Addr)) (outer : List Env) (A₀ : Around) (base h₀ : Heap) (L : Addr) (m : Str → Option Value) (s : Shared) (Q E : Value → Shared → Prop),
    Below A₀ base outer h₀ → Fr h₀ L s.heap m → (hd.heap_39 w.params).In h₀ → News h₀ L s.heap news → Top hd.view_39 (looseW hd.view_39 []) mean mg mb h₀ → cs.kind = .function →
    dp + sz < recursionLimit → un + 8 * sz < cLine → Ret h₀ L m s Q →
    wpAny (model PySem.Challenge.rw_jv0022_01.row.prog w) (ktrTop dp un gd cn cs L a ccd cl outer) (call (.ref f) vs) Q E s

abbrev Ret4 (news : Led) (Φ : T4 → Prop) (h₀ : Heap) (L : Addr) (m : Str → Option Value) (s : Shared) (Q : Value → Shared → Prop) : Prop :=
  ∀ (D : Addr) (x y z t : Int) (t1 t2 t3 t4 : Tok) (c : Nat) (h' : Heap) (tk' : Nat), Φ (x, y, z, t) → Fr h₀ L h' m → News h₀ L h' ((D, tupO #[.int x t1, .int y t2, .int z t3, .int t t4] c) :: news) → Q (.ref D) { s with heap := h', toks := tk' }
abbrev Ret3 (news : Led) (Φ : T3 → Prop) (h₀ : Heap) (L : Addr) (m : Str → Option Value) (s : Shared) (Q : Value → Shared → Prop) : Prop :=
  ∀ (D : Addr) (x y z : Int) (t1 t2 t3 : Tok) (c : Nat) (h' : Heap) (tk' : Nat), Φ (x, y, z) → Fr h₀ L h' m → News h₀ L h' ((D, tupO #[.int x t1, .int y t2, .int z t3] c) :: news) → Q (.ref D) { s with heap := h', toks := tk' }

theorem store_gen {M : Model} {A : Around} {E : Value → Shared → Prop} {s : Shared} {env : Env} {x : Str} {v : Int} {t : Tok} {Q : Unit → Shared → Prop}
  (h : ∀ (t' : Tok) (k : Nat), wpAny M A (storeName env x (.int v t')) Q E { s with toks := k }) : wpAny M A (storeName env x (.int v t)) Q E s := h t s.toks
theorem nameQ {M : Model} {A : Around} {E : Value → Shared → Prop} {s : Shared} {h₀ : Heap} {L a : Addr} {m : Str → Option Value} {cn : Str} {cs : Scope} {ccd : Value} {cl : List (Str × Addr)} {x : Str} {pos : Pos} {v : Value} {Q : Value → Shared → Prop}
  (F : Fr h₀ L s.heap m) (hv : some v = m x) (h : Q v s) (hk : cs.kind = .function) (hx : some NameKind.local = (envX cn cs L a ccd cl).kindOf x) (hd : (x == Str.ofString "__debug__") = false) :
  wpAny M A (eval (.Name x pos) (envX cn cs L a ccd cl)) Q E s := nameX_L F hv.symm h hk hx.symm hd
theorem c_add (w : World) {news : Led} {D1 D2 : Addr} {x1 y1 z1 w1 x2 y2 z2 w2 : Int} {t1 t2 t3 t4 u1 u2 u3 u4 : Tok} {c1 c2 : Nat} {P P' : Pnt}
   (m1 : (D1, tupO #[.int x1 t1, .int y1 t2, .int z1 t3, .int w1 t4] c1) ∈ news) (m2 : (D2, tupO #[.int x2 u1, .int y2 u2, .int z2 u3, .int w2 u4] c2) ∈ news)
   (h1 : S4 P (x1, y1, z1, w1)) (h2 : S4 P' (x2, y2, z2, w2)) :
   Does w 49 2 news [.ref D1, .ref D2] (Ret4 news (S4 (padd P P'))) := by
  obtain ⟨b1, b2, b3, b4, _⟩ := id h1
  obtain ⟨b5, b6, b7, b8, _⟩ := id h2
  have hf := h1.add h2
  dsimp only [tupO] at m1 m2 b1 b2 b3 b4 b5 b6 b7 b8
  unfold Does
  k_fill
  intro mean mg mb dp un gd cn cs a ccd cl outer A₀ base h₀ L m s Q E B F X N T hk hdp hun hret
  refine wpAny_call ?_
  k_dflt ktr_enter
  repeat' (first
    | (k_unfold; (try dsimp only))
    | (k_end; kc_close)
    | ((with_reducible show wpAny _ _ (eval (Expr.Constant _ _ _) _) _ _ _); dsimp only; walk1)
    | ((with_reducible show wpAny _ _ (binaryOp _ (Value.int _ _) (Value.int _ _)) _ _ _); dsimp only; walk1)
    | ((with_reducible show wpAny _ _ (eval (Expr.Name _ _) _) _ _ _); k_dflt (refine' nameQ ?nqF ?nqV ?_ ?nqK ?nqA ?nqB; (case nqF => k_asm); (case nqK => first | rfl | assumption); (case nqA => rfl); (case nqB => decide); (case nqV => rfl); k_whole))
    | (with_reducible refine store_gen ?_; intro t' k'; dsimp only; walk1)
    | walk1
    | (dsimp only; walk1)
    | (leave1; (try dsimp only))
    | fail "no step")
  all_goals exact hret _ _ _ _ _ _ _ _ _ _ _ _ hf (by k_asm) (by k_asm)
theorem c_non (w : World) {news : Led} {D1 D2 : Addr} {x1 y1 z1 w1 x2 y2 z2 w2 : Int} {t1 t2 t3 t4 u1 u2 u3 u4 : Tok} {c1 c2 : Nat} {P P' : Pnt}
   (m1 : (D1, tupO #[.int x1 t1, .int y1 t2, .int z1 t3, .int w1 t4] c1) ∈ news) (m2 : (D2, tupO #[.int x2 u1, .int y2 u2, .int z2 u3, .int w2 u4] c2) ∈ news)
   (h1 : S4 P (x1, y1, z1, w1)) (h2 : S4 P' (x2, y2, z2, w2)) (hx : pfar P P') :
   Does w 63 2 news [.ref D1, .ref D2] (Ret4 news (S4 (padd P P'))) := by
  obtain ⟨b1, b2, b3, b4, _⟩ := id h1
  obtain ⟨b5, b6, b7, b8, _⟩ := id h2
  have hf := h1.non h2 hx
  dsimp only [tupO] at m1 m2 b1 b2 b3 b4 b5 b6 b7 b8
  unfold Does
  k_fill
  intro mean mg mb dp un gd cn cs a ccd cl outer A₀ base h₀ L m s Q E B F X N T hk hdp hun hret
  refine wpAny_call ?_
  k_dflt ktr_enter
  repeat' (first
    | (k_unfold; (try dsimp only))
    | (k_end; kc_close)
    | ((with_reducible show wpAny _ _ (eval (Expr.Constant _ _ _) _) _ _ _); dsimp only; walk1)
    | ((with_reducible show wpAny _ _ (binaryOp _ (Value.int _ _) (Value.int _ _)) _ _ _); dsimp only; walk1)
    | ((with_reducible show wpAny _ _ (eval (Expr.Name _ _) _) _ _ _); k_dflt (refine' nameQ ?nqF ?nqV ?_ ?nqK ?nqA ?nqB; (case nqF => k_asm); (case nqK => first | rfl | assumption); (case nqA => rfl); (case nqB => decide); (case nqV => rfl); k_whole))
    | (with_reducible refine store_gen ?_; intro t' k'; dsimp only; walk1)
    | walk1
    | (dsimp only; walk1)
    | (leave1; (try dsimp only))
    | fail "no step")
  all_goals exact hret _ _ _ _ _ _ _ _ _ _ _ _ hf (by k_asm) (by k_asm)
theorem c_dbl (w : World) {news : Led} {D1 : Addr} {x1 y1 z1 w1 : Int} {t1 t2 t3 t4 : Tok} {c1 : Nat} {P : Pnt}
   (m1 : (D1, tupO #[.int x1 t1, .int y1 t2, .int z1 t3, .int w1 t4] c1) ∈ news)
   (h1 : S4 P (x1, y1, z1, w1)) :
   Does w 42 2 news [.ref D1] (Ret4 news (S4 (padd P P))) := by
  obtain ⟨b1, b2, b3, b4, _⟩ := id h1
  have hf := h1.dbl
  dsimp only [tupO] at m1 b1 b2 b3 b4
  unfold Does
  k_fill
  intro mean mg mb dp un gd cn cs a ccd cl outer A₀ base h₀ L m s Q E B F X N T hk hdp hun hret
  refine wpAny_call ?_
  k_dflt ktr_enter
  repeat' (first
    | (k_unfold; (try dsimp only))
    | (k_end; kc_close)
    | ((with_reducible show wpAny _ _ (eval (Expr.Constant _ _ _) _) _ _ _); dsimp only; walk1)
    | ((with_reducible show wpAny _ _ (binaryOp _ (Value.int _ _) (Value.int _ _)) _ _ _); dsimp only; walk1)
    | ((with_reducible show wpAny _ _ (eval (Expr.Name _ _) _) _ _ _); k_dflt (refine' nameQ ?nqF ?nqV ?_ ?nqK ?nqA ?nqB; (case nqF => k_asm); (case nqK => first | rfl | assumption); (case nqA => rfl); (case nqB => decide); (case nqV => rfl); k_whole))
    | (with_reducible refine store_gen ?_; intro t' k'; dsimp only; walk1)
    | walk1
    | (dsimp only; walk1)
    | (leave1; (try dsimp only))
    | fail "no step")
  all_goals exact hret _ _ _ _ _ _ _ _ _ _ _ _ hf (by k_asm) (by k_asm)
theorem c_add3 (w : World) {news : Led} {D1 D2 : Addr} {x1 y1 z1 x2 y2 z2 : Int} {t1 t2 t3 u1 u2 u3 tq : Tok} {c1 c2 : Nat} {P P' : Pnt}
   (m1 : (D1, tupO #[.int x1 t1, .int y1 t2, .int z1 t3] c1) ∈ news) (m2 : (D2, tupO #[.int x2 u1, .int y2 u2, .int z2 u3] c2) ∈ news)
   (h1 : S3 P (x1, y1, z1)) (h2 : S3 P' (x2, y2, z2)) :
   Does w 105 2 news [.ref D1, .ref D2, .int q tq] (Ret3 news (S3 (padd P P'))) := by
  obtain ⟨b1, b2, b3, _⟩ := id h1
  obtain ⟨b5, b6, b7, _⟩ := id h2
  have hf := h1.add h2
  dsimp only [tupO] at m1 m2 b1 b2 b3 b5 b6 b7
  unfold Does
  k_fill
  intro mean mg mb dp un gd cn cs a ccd cl outer A₀ base h₀ L m s Q E B F X N T hk hdp hun hret
  refine wpAny_call ?_
  k_dflt ktr_enter
  repeat' (first
    | (k_unfold; (try dsimp only))
    | (k_end; kc_close)
    | ((with_reducible show wpAny _ _ (eval (Expr.Constant _ _ _) _) _ _ _); dsimp only; walk1)
    | ((with_reducible show wpAny _ _ (binaryOp _ (Value.int _ _) (Value.int _ _)) _ _ _); dsimp only; walk1)
    | ((with_reducible show wpAny _ _ (eval (Expr.Name _ _) _) _ _ _); k_dflt (refine' nameQ ?nqF ?nqV ?_ ?nqK ?nqA ?nqB; (case nqF => k_asm); (case nqK => first | rfl | assumption); (case nqA => rfl); (case nqB => decide); (case nqV => rfl); k_whole))
    | (with_reducible refine store_gen ?_; intro t' k'; dsimp only; walk1)
    | walk1
    | (dsimp only; walk1)
    | (leave1; (try dsimp only))
    | fail "no step")
  all_goals exact hret _ _ _ _ _ _ _ _ _ _ hf (by k_asm) (by k_asm)
theorem c_ext (w : World) {news : Led} {D1 : Addr} {x1 y1 z1 k : Int} {t1 t2 t3 tk tq : Tok} {c1 : Nat} {P : Pnt}
   (m1 : (D1, tupO #[.int x1 t1, .int y1 t2, .int z1 t3] c1) ∈ news)
   (h1 : S3 P (x1, y1, z1)) (hk1 : 1 ≤ k) (hk2 : k ≤ q - 1) :
   Does w 133 2 news [.ref D1, .int k tk, .int q tq] (Ret4 news (S4 P)) := by
  obtain ⟨b1, b2, b3, _⟩ := id h1
  have bk : R k := ⟨by omega, by omega⟩
  have hf := h1.ext hk1 hk2
  dsimp only [tupO] at m1 b1 b2 b3
  unfold Does
  k_fill
  intro mean mg mb dp un gd cn cs a ccd cl outer A₀ base h₀ L m s Q E B F X N T hk hdp hun hret
  refine wpAny_call ?_
  k_dflt ktr_enter
  repeat' (first
    | (k_unfold; (try dsimp only))
    | (k_end; kc_close)
    | ((with_reducible show wpAny _ _ (eval (Expr.Constant _ _ _) _) _ _ _); dsimp only; walk1)
    | ((with_reducible show wpAny _ _ (binaryOp _ (Value.int _ _) (Value.int _ _)) _ _ _); dsimp only; walk1)
    | ((with_reducible show wpAny _ _ (eval (Expr.Name _ _) _) _ _ _); k_dflt (refine' nameQ ?nqF ?nqV ?_ ?nqK ?nqA ?nqB; (case nqF => k_asm); (case nqK => first | rfl | assumption); (case nqA => rfl); (case nqB => decide); (case nqV => rfl); k_whole))
    | (with_reducible refine store_gen ?_; intro t' k'; dsimp only; walk1)
    | walk1
    | (dsimp only; walk1)
    | (leave1; (try dsimp only))
    | fail "no step")
  all_goals exact hret _ _ _ _ _ _ _ _ _ _ _ _ hf (by k_asm) (by k_asm)


theorem Does.use {w : World} {f : Addr} {sz : Nat} {news : Led} {vs : List Value} {Ret : Heap → Addr → (Str → Option Value) → Shared → (Value → Shared → Prop) → Prop}
    {mean : ExcName → Option Value} {mg mb : Str → Option Value} {dp un : Nat} {gd : Option (List Code)} {cn : Str} {cs : Scope} {a : Addr} {ccd : Value} {cl : List (Str × Addr)} {outer : List Env} {A₀ : Around} {base h₀ : Heap} {L : Addr} {m : Str → Option Value} {s : Shared} {Q E : Value → Shared → Prop}
    (B : Below A₀ base outer h₀) (F : Fr h₀ L s.heap m) (X : (hd.heap_39 w.params).In h₀) (N : News h₀ L s.heap news) (T : Top hd.view_39 (looseW hd.view_39 []) mean mg mb h₀) (hk : cs.kind = .function)
    (C : Does w f sz news vs Ret) (hd : dp + sz < recursionLimit) (hu : un + 8 * sz < cLine) (ret : Ret h₀ L m s Q) :
    wpAny (model PySem.Challenge.rw_jv0022_01.row.prog w) (ktrTop dp un gd cn cs L a ccd cl outer) (call (.ref f) vs) Q E s := C mean mg mb dp un gd cn cs a ccd cl outer A₀ base h₀ L m s Q E B F X N T hk hd hu ret

local macro_rules | `(tactic| k_mem) => `(tactic| ((repeat (first | exact List.mem_cons_self | assumption | refine List.mem_cons_of_mem _ ?_)); done))

def frT (m₀ : Str → Option Value) (f : Int) (tf : Tok) (D1 D2 : Addr) : Str → Option Value := fun y =>
  if y = Str.ofString "factor" then some (.int f tf) else if y = Str.ofString "point" then some (.ref D1) else if y = Str.ofString "total" then some (.ref D2) else m₀ y
theorem frT_start {m₀ : Str → Option Value} {f : Int} {tf : Tok} {D1 D2 : Addr} (h1 : m₀ (Str.ofString "factor") = some (.int f tf)) (h2 : m₀ (Str.ofString "point") = some (.ref D1)) (h3 : m₀ (Str.ofString "total") = some (.ref D2)) : m₀ = frT m₀ f tf D1 D2 := by
  funext y
  unfold frT
  split
  · next e => rw [e, h1]
  split
  · next e => rw [e, h2]
  split
  · next e => rw [e, h3]
  rfl
theorem frT_end {m₀ : Str → Option Value} {f f' : Int} {tf tf' : Tok} {D1 D1' D2 : Addr} :
    (fun y => if y = Str.ofString "factor" then some (.int f' tf') else if y = Str.ofString "point" then some (.ref D1') else frT m₀ f tf D1 D2 y) = frT m₀ f' tf' D1' D2 := by
  funext y
  unfold frT
  split
  · rfl
  split
  · rfl
  rfl
theorem frT_end2 {m₀ : Str → Option Value} {f f' : Int} {tf tf' : Tok} {D1 D1' D2 D2' : Addr} :
    (fun y => if y = Str.ofString "factor" then some (.int f' tf') else if y = Str.ofString "point" then some (.ref D1') else if y = Str.ofString "total" then some (.ref D2') else frT m₀ f tf D1 D2 y) = frT m₀ f' tf' D1' D2' := by
  funext y
  unfold frT
  split
  · rfl
  split
  · rfl
  split
  · rfl
  rfl
theorem while_at {prog : Program} {w : World} {A : Around} {E : Value → Shared → Prop} {Q : Flow → Shared → Prop} {s : Shared} {env : Env} {h₀ : Heap} {L : Addr} {test : Expr} {body : List Stmt} {pos : Pos} {m : Str → Option Value} {news : Led}
    (J : (Str → Option Value) → Nat → (Str → Option Value) → Led → Prop) (n₀ : Nat)
    (F : Fr h₀ L s.heap m) (N : News h₀ L s.heap news) (hJ : J m n₀ m news)
    (turn : ∀ n m₁ news₁ h₁ tk₁, Fr h₀ L h₁ m₁ → News h₀ L h₁ news₁ → J m n m₁ news₁ →
      wpAny (model prog w) A (isTrue test env (eval test env)) (fun b s₂ =>
        if b = true then wpAny (model prog w) A (execs body env) (WhileStep2 h₀ L s (J m) Q n) E s₂ else Q .next s₂) E { s with heap := h₁, toks := tk₁ })
    (hE : PassesOwn (model prog w) A env E := by passes_own) :
    wpAny (model prog w) A (exec (.While test body [] pos) env) Q E s := While_inv2 (J m) F N hJ turn hE
/-- what holds between the turns of `_law_times` -/
def JT (m₀ : Str → Option Value) (news : Led) (G : Pnt) (n : Nat) (m : Str → Option Value) (nx : Led) : Prop :=
  ∃ (f : Int) (tf : Tok) (D1 D2 : Addr) (x1 y1 z1 x2 y2 z2 : Int) (t1 t2 t3 u1 u2 u3 : Tok) (c1 c2 : Nat) (P S : Pnt),
    n = f.toNat ∧ 0 ≤ f ∧ m = frT m₀ f tf D1 D2 ∧ (D1, tupO #[.int x1 t1, .int y1 t2, .int z1 t3] c1) ∈ nx ∧ (D2, tupO #[.int x2 u1, .int y2 u2, .int z2 u3] c2) ∈ nx ∧
    S3 P (x1, y1, z1) ∧ S3 S (x2, y2, z2) ∧ padd S (psmul f.toNat P) = G ∧ (∀ p ∈ news, p ∈ nx)

theorem drop1 {h₀ h : Heap} {L : Addr} {p : Addr × Obj} {news news' : Led} (N : News h₀ L h news') (hp : p ∈ news') (hs : ∀ x ∈ news, x ∈ news') : News h₀ L h (p :: news) :=
  fun x hx => N x ((List.mem_cons.mp hx).elim (fun e => e ▸ hp) (hs x))
theorem times_odd {S P G : Pnt} {f : Int} (h0 : 0 ≤ f) (h1 : f.fmod 2 = 1) (h : padd S (psmul f.toNat P) = G) : padd (padd S P) (psmul (f.fdiv 2).toNat (padd P P)) = G := by
  rw [Int.fmod_eq_emod_of_nonneg _ (by decide)] at h1
  rw [Int.fdiv_eq_ediv_of_nonneg _ (by decide), ← h, psmul_two, ← psmul_mul, show f.toNat = (f / 2).toNat * 2 + 1 by omega, padd_assoc, psmul_succ, padd_comm P]
theorem times_even {S P G : Pnt} {f : Int} (h0 : 0 ≤ f) (h1 : f.fmod 2 ≠ 1) (h : padd S (psmul f.toNat P) = G) : padd S (psmul (f.fdiv 2).toNat (padd P P)) = G := by
  rw [Int.fmod_eq_emod_of_nonneg _ (by decide)] at h1
  rw [Int.fdiv_eq_ediv_of_nonneg _ (by decide), ← h, psmul_two, ← psmul_mul, show f.toNat = (f / 2).toNat * 2 by omega]
theorem times_lt {f : Int} (h : 0 < f) : (f.fdiv 2).toNat < f.toNat := by
  rw [Int.fdiv_eq_ediv_of_nonneg _ (by decide)]; omega
theorem times_ge {f : Int} (h : 0 < f) : 0 ≤ f.fdiv 2 := by
  rw [Int.fdiv_eq_ediv_of_nonneg _ (by decide)]; omega
theorem times_out {S P G : Pnt} {f : Int} (h : ¬ 0 < f) (hG : padd S (psmul f.toNat P) = G) : S = G := by
  rw [show f.toNat = 0 by omega] at hG
  rw [← hG, psmul_zero, padd_O]

theorem times_turn {m₀ m₂ : Str → Option Value} {news nx : Led} {G P S : Pnt} {f : Int} {tf : Tok} {D1 D2 : Addr} {x1 y1 z1 x2 y2 z2 : Int} {t1 t2 t3 u1 u2 u3 : Tok} {c1 c2 : Nat}
    (s1 : S3 P (x1, y1, z1)) (s2 : S3 S (x2, y2, z2)) (hG : padd S (psmul f.toNat P) = G) (h0 : 0 ≤ f)
    (e1 : (D1, tupO #[.int x1 t1, .int y1 t2, .int z1 t3] c1) ∈ nx) (e2 : (D2, tupO #[.int x2 u1, .int y2 u2, .int z2 u3] c2) ∈ nx) (hm : m₂ = frT m₀ f tf D1 D2) (hsub : ∀ p ∈ news, p ∈ nx) : JT m₀ news G f.toNat m₂ nx :=
  ⟨f, tf, D1, D2, x1, y1, z1, x2, y2, z2, t1, t2, t3, u1, u2, u3, c1, c2, P, S, rfl, h0, hm, e1, e2, s1, s2, hG, hsub⟩

theorem c_times (w : World) {news : Led} {D1 : Addr} {k x1 y1 z1 : Int} {t0 t1 t2 t3 tq : Tok} {c1 : Nat} {P : Pnt}
   (m1 : (D1, tupO #[.int x1 t1, .int y1 t2, .int z1 t3] c1) ∈ news) (h1 : S3 P (x1, y1, z1)) (hk0 : 0 ≤ k) :
   Does w 112 4 news [.int k t0, .ref D1, .int q tq] (Ret3 news (S3 (psmul k.toNat P))) := by
  dsimp only [tupO] at m1
  unfold Does
  k_fill
  intro mean mg mb dp un gd cn cs a ccd cl outer A₀ base h₀ L m s Q E B F X N T hk hdp hun hret
  refine wpAny_call ?_
  k_dflt ktr_enter
  repeat ((fail_if_success (with_reducible show wpAny _ _ (exec (Stmt.While _ _ _ _) _) _ _ _)); first | (k_unfold; (try dsimp only)) | walk1 | (dsimp only; walk1))
  rename Fr _ _ _ _ => F1
  rename News _ _ _ _ => N1
  refine while_at (fun m₀ => JT m₀ news (psmul k.toNat P)) k.toNat F1 N1 ?hJ ?turn
  case hJ =>
    refine ⟨k, t0, D1, _, x1, y1, z1, 0, 1, 1, t1, t2, t3, _, _, _, c1, _, P, pO, rfl, hk0, frT_start rfl rfl rfl, List.mem_cons_of_mem _ m1, List.mem_cons_self, h1, S3.zero, pO_add _, fun p hp => List.mem_cons_of_mem _ hp⟩
  case turn =>
    rintro n m' nx h tk' F2 N2 ⟨f, tf, E1, E2, x1, y1, z1, x2, y2, z2, t1, t2, t3, u1, u2, u3, d1, d2, P', S, rfl, hf0, rfl, e1, e2, s1, s2, hG, hsub⟩
    clear F1 N1
    dsimp only [tupO] at e1 e2
    repeat' (first
      | (k_unfold; (try dsimp only))
      | (k_end; kc_close)
      | ((with_reducible show wpAny _ _ (call (Value.ref 105) _) _ _ _); (k_dflt (refine' Does.use ?k1 ?k2 ?k3 ?k4 ?k5 ?kK (c_add3 _ ?m1 ?m2 ?h1 ?h2) ?kd ?ku ?_; (case k1 => k_asm); (case k2 => k_asm); (case k3 => k_asm); (case k4 => k_asm); (case k5 => k_asm); (case kK => first | exact rfl | assumption); (case m1 => k_mem); (case m2 => k_mem); (case h1 => assumption); (case h2 => assumption); (case kd => ktr_room); (case ku => ktr_units)); intro D' x' y' z' t1' t2' t3' c' h' tk' hS' F' N'; (try dsimp only)))
      | ((with_reducible show wpAny _ _ (eval (Expr.Constant _ _ _) _) _ _ _); dsimp only; walk1)
      | ((with_reducible show wpAny _ _ (binaryOp _ (Value.int _ _) (Value.int _ _)) _ _ _); dsimp only; walk1)
      | ((with_reducible show wpAny _ _ (eval (Expr.Name _ _) _) _ _ _); k_dflt (refine' nameQ ?nqF ?nqV ?_ ?nqK ?nqA ?nqB; (case nqF => k_asm); (case nqK => first | rfl | assumption); (case nqA => rfl); (case nqB => decide); (case nqV => rfl); k_whole))
      | (with_reducible refine store_gen ?_; intro t' k'; dsimp only; walk1)
      | walk1
      | (dsimp only; walk1)
      | (leave1; (try dsimp only))
      | fail "no step")
    · rename S3 (padd S P') _ => hA
      rename S3 (padd P' P') _ => hB
      rename Fr _ _ _ _ => F3
      rename News _ _ _ _ => N3
      rename (0 : Int) < f => hpos
      rename Int.fmod f 2 = 1 => hodd
      exact ⟨_, _, _, _, _, rfl, F3, N3, times_lt hpos, times_turn hB hA (times_odd hf0 hodd hG) (times_ge hpos) List.mem_cons_self (List.mem_cons_of_mem _ List.mem_cons_self) frT_end2 fun p hp => List.mem_cons_of_mem _ (List.mem_cons_of_mem _ (hsub p hp))⟩
    · rename S3 (padd P' P') _ => hB
      rename Fr _ _ _ _ => F3
      rename News _ _ _ _ => N3
      rename (0 : Int) < f => hpos
      rename Int.fmod f 2 ≠ 1 => hodd
      exact ⟨_, _, _, _, _, rfl, F3, N3, times_lt hpos, times_turn hB s2 (times_even hf0 hodd hG) (times_ge hpos) List.mem_cons_self (List.mem_cons_of_mem _ e2) frT_end fun p hp => List.mem_cons_of_mem _ (hsub p hp)⟩
    · rename ¬ (0 : Int) < f => hneg
      have hS := times_out hneg hG
      subst hS
      exact hret _ _ _ _ _ _ _ _ _ _ s2 (by k_asm) (drop1 (by assumption) e2 hsub)

theorem nonneg_abs (a : Int) : 0 ≤ (if a < 0 then -a else a) := by split <;> omega
theorem toNat_abs (a : Int) : (if a < 0 then -a else a).toNat = a.natAbs := by split <;> omega
theorem c_tor (w : World) {news : Led} {t : Int} {t0 tq : Tok} (ht : 0 ≤ t) :
   Does w 119 6 news [.int t t0, .int q tq] (Ret3 news (S3 (ptor t))) := by
  unfold Does
  k_fill
  intro mean mg mb dp un gd cn cs a ccd cl outer A₀ base h₀ L m s Q E B F X N T hk hdp hun hret
  refine wpAny_call ?_
  k_dflt ktr_enter
  repeat' (first
    | (k_unfold; (try dsimp only))
    | (k_end; kc_close)
    | ((with_reducible show wpAny _ _ (call (Value.ref 112) _) _ _ _); (k_dflt (refine' Does.use ?k1 ?k2 ?k3 ?k4 ?k5 ?kK (c_times _ ?m1 ?h1 ?h2) ?kd ?ku ?_; (case k1 => k_asm); (case k2 => k_asm); (case k3 => k_asm); (case k4 => k_asm); (case k5 => k_asm); (case kK => first | exact rfl | assumption); (case m1 => k_mem); (case h1 => first | assumption | exact S3.eighth | exact S3.base); (case h2 => first | assumption | exact nonneg_abs _); (case kd => ktr_room); (case ku => ktr_units)); intro D' x' y' z' t1' t2' t3' c' h' tk' hS' F' N'; (try dsimp only)))
    | ((with_reducible show wpAny _ _ (eval (Expr.Constant _ _ _) _) _ _ _); dsimp only; walk1)
    | ((with_reducible show wpAny _ _ (binaryOp _ (Value.int _ _) (Value.int _ _)) _ _ _); dsimp only; walk1)
    | ((with_reducible show wpAny _ _ (eval (Expr.Name _ _) _) _ _ _); k_dflt (refine' nameQ ?nqF ?nqV ?_ ?nqK ?nqA ?nqB; (case nqF => k_asm); (case nqK => first | rfl | assumption); (case nqA => rfl); (case nqB => decide); (case nqV => rfl); k_whole))
    | (with_reducible refine store_gen ?_; intro t' k'; dsimp only; walk1)
    | walk1
    | (dsimp only; walk1)
    | (leave1; (try dsimp only))
    | fail "no step")
  rename S3 _ _ => hS
  rename News _ _ _ _ => N3
  exact hret _ _ _ _ _ _ _ _ _ _ hS.tor (by k_asm) (drop1 N3 (by k_mem) (fun p hp => by k_mem))
theorem c_main (w : World) {news : Led} {c : Int} {t0 tq : Tok} :
   Does w 126 6 news [.int c t0, .int q tq] (Ret3 news (S3 (pmain c))) := by
  unfold Does
  k_fill
  intro mean mg mb dp un gd cn cs a ccd cl outer A₀ base h₀ L m s Q E B F X N T hk hdp hun hret
  refine wpAny_call ?_
  k_dflt ktr_enter
  repeat' (first
    | (k_unfold; (try dsimp only))
    | (k_end; kc_close)
    | ((with_reducible show wpAny _ _ (call (Value.ref 112) _) _ _ _); (k_dflt (refine' Does.use ?k1 ?k2 ?k3 ?k4 ?k5 ?kK (c_times _ ?m1 ?h1 ?h2) ?kd ?ku ?_; (case k1 => k_asm); (case k2 => k_asm); (case k3 => k_asm); (case k4 => k_asm); (case k5 => k_asm); (case kK => first | exact rfl | assumption); (case m1 => k_mem); (case h1 => first | assumption | exact S3.eighth | exact S3.base); (case h2 => first | assumption | exact nonneg_abs _); (case kd => ktr_room); (case ku => ktr_units)); intro D' x' y' z' t1' t2' t3' c' h' tk' hS' F' N'; (try dsimp only)))
    | ((with_reducible show wpAny _ _ (eval (Expr.Constant _ _ _) _) _ _ _); dsimp only; walk1)
    | ((with_reducible show wpAny _ _ (binaryOp _ (Value.int _ _) (Value.int _ _)) _ _ _); dsimp only; walk1)
    | ((with_reducible show wpAny _ _ (eval (Expr.Name _ _) _) _ _ _); k_dflt (refine' nameQ ?nqF ?nqV ?_ ?nqK ?nqA ?nqB; (case nqF => k_asm); (case nqK => first | rfl | assumption); (case nqA => rfl); (case nqB => decide); (case nqV => rfl); k_whole))
    | (with_reducible refine store_gen ?_; intro t' k'; dsimp only; walk1)
    | walk1
    | (dsimp only; walk1)
    | (leave1; (try dsimp only))
    | fail "no step")
  · rename S3 _ _ => hS
    rename News _ _ _ _ => N3
    rename 0 ≤ c => hc
    rw [toNat_abs] at hS
    exact hret _ _ _ _ _ _ _ _ _ _ (S3.main_pos hc hS) (by k_asm) (drop1 N3 (by k_mem) (fun p hp => by k_mem))
  · rename S3 _ _ => hS
    rename News _ _ _ _ => N3
    rename ¬ 0 ≤ c => hc
    rw [toNat_abs] at hS
    exact hret _ _ _ _ _ _ _ _ _ _ (S3.main_neg hc hS) (by k_asm) (drop1 N3 (by k_mem) (fun p hp => by k_mem))
theorem c_point (w : World) {news : Led} {D1 : Addr} {m t : Int} {t0 t1 tq : Tok} {c1 : Nat} (m1 : (D1, tupO #[.int m t0, .int t t1] c1) ∈ news) (ht : 0 ≤ t) :
   Does w 159 8 news [.ref D1, .int q tq] (Ret3 news (S3 (pnt m t))) := by
  unfold Does
  k_fill
  intro mean mg mb dp un gd cn cs a ccd cl outer A₀ base h₀ L m' s Q E B F X N T hk hdp hun hret
  refine wpAny_call ?_
  k_dflt ktr_enter
  repeat' (first
    | (k_unfold; (try dsimp only))
    | (k_end; kc_close)
    | ((with_reducible show wpAny _ _ (call (Value.ref 105) _) _ _ _); (k_dflt (refine' Does.use ?k1 ?k2 ?k3 ?k4 ?k5 ?kK (c_add3 _ ?m1 ?m2 ?h1 ?h2) ?kd ?ku ?_; (case k1 => k_asm); (case k2 => k_asm); (case k3 => k_asm); (case k4 => k_asm); (case k5 => k_asm); (case kK => first | exact rfl | assumption); (case m1 => k_mem); (case m2 => k_mem); (case h1 => assumption); (case h2 => assumption); (case kd => ktr_room); (case ku => ktr_units)); intro D' x' y' z' t1' t2' t3' c' h' tk' hS' F' N'; (try dsimp only)))
    | ((with_reducible show wpAny _ _ (call (Value.ref 126) _) _ _ _); (k_dflt (refine' Does.use ?k1 ?k2 ?k3 ?k4 ?k5 ?kK (c_main _) ?kd ?ku ?_; (case k1 => k_asm); (case k2 => k_asm); (case k3 => k_asm); (case k4 => k_asm); (case k5 => k_asm); (case kK => first | exact rfl | assumption); (case kd => ktr_room); (case ku => ktr_units)); intro D' x' y' z' t1' t2' t3' c' h' tk' hS' F' N'; (try dsimp only)))
    | ((with_reducible show wpAny _ _ (call (Value.ref 119) _) _ _ _); (k_dflt (refine' Does.use ?k1 ?k2 ?k3 ?k4 ?k5 ?kK (c_tor _ ?h1) ?kd ?ku ?_; (case k1 => k_asm); (case k2 => k_asm); (case k3 => k_asm); (case k4 => k_asm); (case k5 => k_asm); (case kK => first | exact rfl | assumption); (case h1 => assumption); (case kd => ktr_room); (case ku => ktr_units)); intro D' x' y' z' t1' t2' t3' c' h' tk' hS' F' N'; (try dsimp only)))
    | ((with_reducible show wpAny _ _ (call (Value.ref 112) _) _ _ _); (k_dflt (refine' Does.use ?k1 ?k2 ?k3 ?k4 ?k5 ?kK (c_times _ ?m1 ?h1 ?h2) ?kd ?ku ?_; (case k1 => k_asm); (case k2 => k_asm); (case k3 => k_asm); (case k4 => k_asm); (case k5 => k_asm); (case kK => first | exact rfl | assumption); (case m1 => k_mem); (case h1 => first | assumption | exact S3.eighth | exact S3.base); (case h2 => first | assumption | exact nonneg_abs _); (case kd => ktr_room); (case ku => ktr_units)); intro D' x' y' z' t1' t2' t3' c' h' tk' hS' F' N'; (try dsimp only)))
    | ((with_reducible show wpAny _ _ (eval (Expr.Constant _ _ _) _) _ _ _); dsimp only; walk1)
    | ((with_reducible show wpAny _ _ (binaryOp _ (Value.int _ _) (Value.int _ _)) _ _ _); dsimp only; walk1)
    | ((with_reducible show wpAny _ _ (eval (Expr.Name _ _) _) _ _ _); k_dflt (refine' nameQ ?nqF ?nqV ?_ ?nqK ?nqA ?nqB; (case nqF => k_asm); (case nqK => first | rfl | assumption); (case nqA => rfl); (case nqB => decide); (case nqV => rfl); k_whole))
    | (with_reducible refine store_gen ?_; intro t' k'; dsimp only; walk1)
    | walk1
    | (dsimp only; walk1)
    | (leave1; (try dsimp only))
    | fail "no step")
  rename S3 (padd _ _) _ => hS
  rename News _ _ _ _ => N3
  rw [← pnt_parts] at hS
  exact hret _ _ _ _ _ _ _ _ _ _ hS (by k_asm) (drop1 N3 (by k_mem) (fun p hp => by k_mem))

theorem c_aff (w : World) {news : Led} {D1 : Addr} {x y : Int} {t0 t1 : Tok} {c1 : Nat} (m1 : (D1, tupO #[.int x t0, .int y t1] c1) ∈ news) (hm : IntMulOk x y) :
   Does w 28 2 news [.ref D1] (Ret4 news (fun t => t = (x.fmod q, y.fmod q, 1, (x * y).fmod q))) := by
  unfold Does
  k_fill
  intro mean mg mb dp un gd cn cs a ccd cl outer A₀ base h₀ L m' s Q E B F X N T hk hdp hun hret
  dsimp only [tupO] at m1
  refine wpAny_call ?_
  k_dflt ktr_enter
  repeat' (first
    | (k_unfold; (try dsimp only))
    | (k_end; kc_close)
    | ((with_reducible show wpAny _ _ (eval (Expr.Constant _ _ _) _) _ _ _); dsimp only; walk1)
    | ((with_reducible show wpAny _ _ (binaryOp _ (Value.int _ _) (Value.int _ _)) _ _ _); dsimp only; walk1)
    | ((with_reducible show wpAny _ _ (eval (Expr.Name _ _) _) _ _ _); k_dflt (refine' nameQ ?nqF ?nqV ?_ ?nqK ?nqA ?nqB; (case nqF => k_asm); (case nqK => first | rfl | assumption); (case nqA => rfl); (case nqB => decide); (case nqV => rfl); k_whole))
    | (with_reducible refine store_gen ?_; intro t' k'; dsimp only; walk1)
    | walk1
    | (dsimp only; walk1)
    | (leave1; (try dsimp only))
    | fail "no step")
  all_goals exact hret _ _ _ _ _ _ _ _ _ _ _ _ rfl (by k_asm) (by k_asm)

structure SlowIH (w : World) (b : Nat) : Prop where
  use : ∀ {news : Led} {D1 : Addr} {k x1 y1 z1 w1 : Int} {t0 t1 t2 t3 t4 : Tok} {c1 : Nat} {P : Pnt}, (D1, tupO #[.int x1 t1, .int y1 t2, .int z1 t3, .int w1 t4] c1) ∈ news → S4 P (x1, y1, z1, w1) → 0 ≤ k → k + k < 2 ^ b → b ≠ 0 →
    Does w 56 (b + 3) news [.ref D1, .int k t0] (Ret4 news (S4 (psmul k.toNat P)))
theorem half_ge {k : Int} (h : 0 ≤ k) : 0 ≤ k.fdiv (2 ^ Int.toNat 1) := by
  rw [show (2:Int) ^ Int.toNat 1 = 2 from rfl, Int.fdiv_eq_ediv_of_nonneg _ (by decide)]; omega
theorem half_lt {k : Int} {b : Nat} (h : k < 2 ^ b) : k.fdiv (2 ^ Int.toNat 1) + k.fdiv (2 ^ Int.toNat 1) < 2 ^ b := by
  rw [show (2:Int) ^ Int.toNat 1 = 2 from rfl, Int.fdiv_eq_ediv_of_nonneg _ (by decide)]
  generalize (2:Int) ^ b = p at *
  omega
theorem half_ne {k : Int} {b : Nat} (h : k < 2 ^ b) (h0 : 0 ≤ k) (h1 : k ≠ 0) : b ≠ 0 := by
  intro e; subst e; rw [Int.pow_zero] at h; omega
theorem bit_even {k : Int} {P : Pnt} (h0 : 0 ≤ k) (h : Builtin.bitAnd k 1 = 0) : padd (psmul (k.fdiv (2 ^ Int.toNat 1)).toNat P) (psmul (k.fdiv (2 ^ Int.toNat 1)).toNat P) = psmul k.toNat P := by
  have e : k.toNat % 2 = 0 := by
    unfold Builtin.bitAnd at h
    rw [decide_eq_true h0] at h
    have h' : ((k.toNat &&& 1 : Nat) : Int) = 0 := h
    rw [Nat.and_one_is_mod] at h'
    omega
  rw [show (2:Int) ^ Int.toNat 1 = 2 from rfl, Int.fdiv_eq_ediv_of_nonneg _ (by decide), psmul_two, ← psmul_mul, show 2 * (k / 2).toNat = k.toNat by omega]
theorem bit_odd {k : Int} {P : Pnt} (h0 : 0 ≤ k) (h : Builtin.bitAnd k 1 ≠ 0) : padd (padd (psmul (k.fdiv (2 ^ Int.toNat 1)).toNat P) (psmul (k.fdiv (2 ^ Int.toNat 1)).toNat P)) P = psmul k.toNat P := by
  have e : k.toNat % 2 = 1 := by
    unfold Builtin.bitAnd at h
    rw [decide_eq_true h0] at h
    have h' : ¬ ((k.toNat &&& 1 : Nat) : Int) = 0 := h
    rw [Nat.and_one_is_mod] at h'
    omega
  rw [show (2:Int) ^ Int.toNat 1 = 2 from rfl, Int.fdiv_eq_ediv_of_nonneg _ (by decide), psmul_two, ← psmul_mul, ← psmul_succ, show 2 * (k / 2).toNat + 1 = k.toNat by omega]
theorem aff_zero {t : T4} (h : t = ((0:Int).fmod q, (1:Int).fmod q, 1, ((0:Int) * 1).fmod q)) {k : Int} (hk : k = 0) {P : Pnt} : S4 (psmul k.toNat P) t := by
  subst hk
  rw [show (0:Int).toNat = 0 from rfl, psmul_zero, h]
  exact S4.zero
theorem c_slow1 (w : World) {b : Nat} (IH : SlowIH w b) {news : Led} {D1 : Addr} {k x1 y1 z1 w1 : Int} {t0 t1 t2 t3 t4 : Tok} {c1 : Nat} {P : Pnt}
   (m1 : (D1, tupO #[.int x1 t1, .int y1 t2, .int z1 t3, .int w1 t4] c1) ∈ news) (h1 : S4 P (x1, y1, z1, w1)) (hk0 : 0 ≤ k) (hb : k < 2 ^ b) :
   Does w 56 (b + 4) news [.ref D1, .int k t0] (Ret4 news (S4 (psmul k.toNat P))) := by
  unfold Does
  k_fill
  intro mean mg mb dp un gd cn cs a ccd cl outer A₀ base h₀ L m' s Q E B F X N T hk hdp hun hret
  refine wpAny_call ?_
  k_dflt ktr_enter
  repeat' (first
    | (k_unfold; (try dsimp only))
    | (k_end; kc_close)
    | ((with_reducible show wpAny _ _ (call (Value.ref 56) _) _ _ _); (k_dflt (refine' Does.use ?k1 ?k2 ?k3 ?k4 ?k5 ?kK (SlowIH.use (by assumption) ?m1 ?h1 ?h2 ?h3 ?h4) ?kd ?ku ?_; (case k1 => k_asm); (case k2 => k_asm); (case k3 => k_asm); (case k4 => k_asm); (case k5 => k_asm); (case kK => first | exact rfl | assumption); (case m1 => k_mem); (case h1 => assumption); (case h2 => exact half_ge (by assumption)); (case h3 => exact half_lt (by assumption)); (case h4 => exact half_ne (by assumption) (by assumption) (by assumption)); (case kd => ktr_room); (case ku => ktr_units)); intro D' x' y' z' w' t1' t2' t3' t4' c' h' tk' hS' F' N'; (try dsimp only)))
    | ((with_reducible show wpAny _ _ (call (Value.ref 49) _) _ _ _); (k_dflt (refine' Does.use ?k1 ?k2 ?k3 ?k4 ?k5 ?kK (c_add _ ?m1 ?m2 ?h1 ?h2) ?kd ?ku ?_; (case k1 => k_asm); (case k2 => k_asm); (case k3 => k_asm); (case k4 => k_asm); (case k5 => k_asm); (case kK => first | exact rfl | assumption); (case m1 => k_mem); (case m2 => k_mem); (case h1 => assumption); (case h2 => assumption); (case kd => ktr_room); (case ku => ktr_units)); intro D' x' y' z' w' t1' t2' t3' t4' c' h' tk' hS' F' N'; (try dsimp only)))
    | ((with_reducible show wpAny _ _ (call (Value.ref 42) _) _ _ _); (k_dflt (refine' Does.use ?k1 ?k2 ?k3 ?k4 ?k5 ?kK (c_dbl _ ?m1 ?h1) ?kd ?ku ?_; (case k1 => k_asm); (case k2 => k_asm); (case k3 => k_asm); (case k4 => k_asm); (case k5 => k_asm); (case kK => first | exact rfl | assumption); (case m1 => k_mem); (case h1 => assumption); (case kd => ktr_room); (case ku => ktr_units)); intro D' x' y' z' w' t1' t2' t3' t4' c' h' tk' hS' F' N'; (try dsimp only)))
    | ((with_reducible show wpAny _ _ (call (Value.ref 28) _) _ _ _); (k_dflt (refine' Does.use ?k1 ?k2 ?k3 ?k4 ?k5 ?kK (c_aff _ ?m1 ?h1) ?kd ?ku ?_; (case k1 => k_asm); (case k2 => k_asm); (case k3 => k_asm); (case k4 => k_asm); (case k5 => k_asm); (case kK => first | exact rfl | assumption); (case m1 => k_mem); (case h1 => first | assumption | mul_fits); (case kd => ktr_room); (case ku => ktr_units)); intro D' x' y' z' w' t1' t2' t3' t4' c' h' tk' hS' F' N'; (try dsimp only)))
    | ((with_reducible show wpAny _ _ (eval (Expr.Constant _ _ _) _) _ _ _); dsimp only; walk1)
    | ((with_reducible show wpAny _ _ (binaryOp _ (Value.int _ _) (Value.int _ _)) _ _ _); dsimp only; walk1)
    | ((with_reducible show wpAny _ _ (eval (Expr.Name _ _) _) _ _ _); k_dflt (refine' nameQ ?nqF ?nqV ?_ ?nqK ?nqA ?nqB; (case nqF => k_asm); (case nqK => first | rfl | assumption); (case nqA => rfl); (case nqB => decide); (case nqV => rfl); k_whole))
    | (with_reducible refine store_gen ?_; intro t' k'; dsimp only; walk1)
    | walk1
    | (dsimp only; walk1)
    | (leave1; (try dsimp only))
    | fail "no step")
  · rename ((_ : Int), (_ : Int), (_ : Int), (_ : Int)) = _ => hE
    rename k = 0 => hz
    rename News _ _ _ _ => N3
    exact hret _ _ _ _ _ _ _ _ _ _ _ _ (aff_zero hE hz) (by k_asm) (drop1 N3 (by k_mem) (fun p hp => by k_mem))
  · rename S4 (padd (padd _ _) _) _ => hS
    rename Builtin.bitAnd k 1 ≠ 0 => hbit
    rename News _ _ _ _ => N3
    rw [bit_odd hk0 hbit] at hS
    exact hret _ _ _ _ _ _ _ _ _ _ _ _ hS (by k_asm) (drop1 N3 (by k_mem) (fun p hp => by k_mem))
  · rename S4 (padd _ _) _ => hS
    rename Builtin.bitAnd k 1 = 0 => hbit
    rename News _ _ _ _ => N3
    rw [bit_even hk0 hbit] at hS
    exact hret _ _ _ _ _ _ _ _ _ _ _ _ hS (by k_asm) (drop1 N3 (by k_mem) (fun p hp => by k_mem))
theorem half_pow {k : Int} {b : Nat} (h : k + k < 2 ^ (b + 1)) : k < 2 ^ b := by
  rw [Int.pow_succ] at h
  generalize (2:Int) ^ b = p at *
  omega
theorem c_slow (w : World) : ∀ (b : Nat), SlowIH w (b + 1)
  | 0 => ⟨fun m1 h1 h0 h2 _ => c_slow1 w (b := 0) ⟨fun _ _ _ _ h => absurd rfl h⟩ m1 h1 h0 (half_pow h2)⟩
  | b + 1 => ⟨fun m1 h1 h0 h2 _ => c_slow1 w (b := b + 1) (c_slow w b) m1 h1 h0 (half_pow h2)⟩

structure FastIH (w : World) (m t : Int) (b : Nat) : Prop where
  hm : m.natAbs ≤ 1000
  h0 : m ≠ 0
  hb : b ≤ 61
  use : ∀ {news : Led} {D1 : Addr} {k x1 y1 z1 w1 : Int} {t0 t1 t2 t3 t4 : Tok} {c1 : Nat}, (D1, tupO #[.int x1 t1, .int y1 t2, .int z1 t3, .int w1 t4] c1) ∈ news → S4 (pnt m t) (x1, y1, z1, w1) → 0 ≤ k → k + k < 2 ^ b → b ≠ 0 →
    Does w 70 (b + 3) news [.ref D1, .int k t0] (Ret4 news (S4 (psmul k.toNat (pnt m t))))
theorem FastIH.far {w : World} {m t : Int} {b : Nat} (h : FastIH w m t b) {k : Int} (hk0 : 0 ≤ k) (hk : k < 2 ^ b) : pfar (padd (psmul (k.fdiv (2 ^ Int.toNat 1)).toNat (pnt m t)) (psmul (k.fdiv (2 ^ Int.toNat 1)).toNat (pnt m t))) (pnt m t) := by
  rw [psmul_two, ← psmul_mul]
  refine pfar_of h.hm h.h0 _ ?_
  have h1 := half_lt hk
  have h2 := half_ge hk0
  have h3 : (2:Int) ^ b ≤ 2 ^ 61 := by
    have := Nat.pow_le_pow_right (n := 2) (by decide) h.hb
    have e : (2:Int) ^ b = ((2 ^ b : Nat) : Int) := (Int.natCast_pow 2 b).symm
    rw [e]; omega
  generalize k.fdiv (2 ^ Int.toNat 1) = j at *
  generalize (2:Int) ^ b = p at *
  omega
theorem c_fast1 (w : World) {m t : Int} {b : Nat} (IH : FastIH w m t b) {news : Led} {D1 : Addr} {k x1 y1 z1 w1 : Int} {t0 t1 t2 t3 t4 : Tok} {c1 : Nat}
   (m1 : (D1, tupO #[.int x1 t1, .int y1 t2, .int z1 t3, .int w1 t4] c1) ∈ news) (h1 : S4 (pnt m t) (x1, y1, z1, w1)) (hk0 : 0 ≤ k) (hb : k < 2 ^ b) :
   Does w 70 (b + 4) news [.ref D1, .int k t0] (Ret4 news (S4 (psmul k.toNat (pnt m t)))) := by
  unfold Does
  k_fill
  intro mean mg mb dp un gd cn cs a ccd cl outer A₀ base h₀ L m' s Q E B F X N T hk hdp hun hret
  refine wpAny_call ?_
  k_dflt ktr_enter
  repeat' (first
    | (k_unfold; (try dsimp only))
    | (k_end; kc_close)
    | ((with_reducible show wpAny _ _ (call (Value.ref 63) _) _ _ _); (k_dflt (refine' Does.use ?k1 ?k2 ?k3 ?k4 ?k5 ?kK (c_non _ ?m1 ?m2 ?h1 ?h2 ?h3) ?kd ?ku ?_; (case k1 => k_asm); (case k2 => k_asm); (case k3 => k_asm); (case k4 => k_asm); (case k5 => k_asm); (case kK => first | exact rfl | assumption); (case m1 => k_mem); (case m2 => k_mem); (case h1 => assumption); (case h2 => assumption); (case h3 => exact FastIH.far (by assumption) (by assumption) (by assumption)); (case kd => ktr_room); (case ku => ktr_units)); intro D' x' y' z' w' t1' t2' t3' t4' c' h' tk' hS' F' N'; (try dsimp only)))
    | ((with_reducible show wpAny _ _ (call (Value.ref 70) _) _ _ _); (k_dflt (refine' Does.use ?k1 ?k2 ?k3 ?k4 ?k5 ?kK (FastIH.use (by assumption) ?m1 ?h1 ?h2 ?h3 ?h4) ?kd ?ku ?_; (case k1 => k_asm); (case k2 => k_asm); (case k3 => k_asm); (case k4 => k_asm); (case k5 => k_asm); (case kK => first | exact rfl | assumption); (case m1 => k_mem); (case h1 => assumption); (case h2 => exact half_ge (by assumption)); (case h3 => exact half_lt (by assumption)); (case h4 => exact half_ne (by assumption) (by assumption) (by assumption)); (case kd => ktr_room); (case ku => ktr_units)); intro D' x' y' z' w' t1' t2' t3' t4' c' h' tk' hS' F' N'; (try dsimp only)))
    | ((with_reducible show wpAny _ _ (call (Value.ref 56) _) _ _ _); (k_dflt (refine' Does.use ?k1 ?k2 ?k3 ?k4 ?k5 ?kK (SlowIH.use (by assumption) ?m1 ?h1 ?h2 ?h3 ?h4) ?kd ?ku ?_; (case k1 => k_asm); (case k2 => k_asm); (case k3 => k_asm); (case k4 => k_asm); (case k5 => k_asm); (case kK => first | exact rfl | assumption); (case m1 => k_mem); (case h1 => assumption); (case h2 => exact half_ge (by assumption)); (case h3 => exact half_lt (by assumption)); (case h4 => exact half_ne (by assumption) (by assumption) (by assumption)); (case kd => ktr_room); (case ku => ktr_units)); intro D' x' y' z' w' t1' t2' t3' t4' c' h' tk' hS' F' N'; (try dsimp only)))
    | ((with_reducible show wpAny _ _ (call (Value.ref 49) _) _ _ _); (k_dflt (refine' Does.use ?k1 ?k2 ?k3 ?k4 ?k5 ?kK (c_add _ ?m1 ?m2 ?h1 ?h2) ?kd ?ku ?_; (case k1 => k_asm); (case k2 => k_asm); (case k3 => k_asm); (case k4 => k_asm); (case k5 => k_asm); (case kK => first | exact rfl | assumption); (case m1 => k_mem); (case m2 => k_mem); (case h1 => assumption); (case h2 => assumption); (case kd => ktr_room); (case ku => ktr_units)); intro D' x' y' z' w' t1' t2' t3' t4' c' h' tk' hS' F' N'; (try dsimp only)))
    | ((with_reducible show wpAny _ _ (call (Value.ref 42) _) _ _ _); (k_dflt (refine' Does.use ?k1 ?k2 ?k3 ?k4 ?k5 ?kK (c_dbl _ ?m1 ?h1) ?kd ?ku ?_; (case k1 => k_asm); (case k2 => k_asm); (case k3 => k_asm); (case k4 => k_asm); (case k5 => k_asm); (case kK => first | exact rfl | assumption); (case m1 => k_mem); (case h1 => assumption); (case kd => ktr_room); (case ku => ktr_units)); intro D' x' y' z' w' t1' t2' t3' t4' c' h' tk' hS' F' N'; (try dsimp only)))
    | ((with_reducible show wpAny _ _ (call (Value.ref 28) _) _ _ _); (k_dflt (refine' Does.use ?k1 ?k2 ?k3 ?k4 ?k5 ?kK (c_aff _ ?m1 ?h1) ?kd ?ku ?_; (case k1 => k_asm); (case k2 => k_asm); (case k3 => k_asm); (case k4 => k_asm); (case k5 => k_asm); (case kK => first | exact rfl | assumption); (case m1 => k_mem); (case h1 => first | assumption | mul_fits); (case kd => ktr_room); (case ku => ktr_units)); intro D' x' y' z' w' t1' t2' t3' t4' c' h' tk' hS' F' N'; (try dsimp only)))
    | ((with_reducible show wpAny _ _ (eval (Expr.Constant _ _ _) _) _ _ _); dsimp only; walk1)
    | ((with_reducible show wpAny _ _ (binaryOp _ (Value.int _ _) (Value.int _ _)) _ _ _); dsimp only; walk1)
    | ((with_reducible show wpAny _ _ (eval (Expr.Name _ _) _) _ _ _); k_dflt (refine' nameQ ?nqF ?nqV ?_ ?nqK ?nqA ?nqB; (case nqF => k_asm); (case nqK => first | rfl | assumption); (case nqA => rfl); (case nqB => decide); (case nqV => rfl); k_whole))
    | (with_reducible refine store_gen ?_; intro t' k'; dsimp only; walk1)
    | walk1
    | (dsimp only; walk1)
    | (leave1; (try dsimp only))
    | fail "no step")
  · rename ((_ : Int), (_ : Int), (_ : Int), (_ : Int)) = _ => hE
    rename k = 0 => hz
    rename News _ _ _ _ => N3
    exact hret _ _ _ _ _ _ _ _ _ _ _ _ (aff_zero hE hz) (by k_asm) (drop1 N3 (by k_mem) (fun p hp => by k_mem))
  · rename S4 (padd (padd _ _) _) _ => hS
    rename Builtin.bitAnd k 1 ≠ 0 => hbit
    rename News _ _ _ _ => N3
    rw [bit_odd hk0 hbit] at hS
    exact hret _ _ _ _ _ _ _ _ _ _ _ _ hS (by k_asm) (drop1 N3 (by k_mem) (fun p hp => by k_mem))
  · rename S4 (padd _ _) _ => hS
    rename Builtin.bitAnd k 1 = 0 => hbit
    rename News _ _ _ _ => N3
    rw [bit_even hk0 hbit] at hS
    exact hret _ _ _ _ _ _ _ _ _ _ _ _ hS (by k_asm) (drop1 N3 (by k_mem) (fun p hp => by k_mem))
theorem c_fast (w : World) {m t : Int} (hm : m.natAbs ≤ 1000) (h0 : m ≠ 0) : ∀ (b : Nat), b ≤ 60 → FastIH w m t (b + 1)
  | 0, _ => ⟨hm, h0, by omega, fun m1 h1 h0' h2 _ => c_fast1 w (b := 0) ⟨hm, h0, by omega, fun _ _ _ _ h => absurd rfl h⟩ m1 h1 h0' (half_pow h2)⟩
  | b + 1, hb => ⟨hm, h0, by omega, fun m1 h1 h0' h2 _ => c_fast1 w (b := b + 1) (c_fast w hm h0 b (by omega)) m1 h1 h0' (half_pow h2)⟩

abbrev RetB (news : Led) (b : Bool) (h₀ : Heap) (L : Addr) (m : Str → Option Value) (s : Shared) (Q : Value → Shared → Prop) : Prop :=
  ∀ (h' : Heap) (tk' : Nat), Fr h₀ L h' m → News h₀ L h' news → Q (.bool b) { s with heap := h', toks := tk' }
theorem RetB.go {news news' : Led} {b b' : Bool} {h₀ h' : Heap} {L : Addr} {m : Str → Option Value} {s : Shared} {Q : Value → Shared → Prop} {tk' : Nat} (hret : RetB news b h₀ L m s Q) (e : b' = b) (F : Fr h₀ L h' m) (N : News h₀ L h' news') (hs : ∀ p ∈ news, p ∈ news') : Q (.bool b') { s with heap := h', toks := tk' } := by
  subst e
  exact hret _ _ F fun p hp => N p (hs p hp)
theorem R.self {x : Int} (h : R x) : x.fmod q = x := by
  rw [Int.fmod_eq_emod_of_nonneg _ (by decide), Int.emod_eq_of_lt h.1 h.2]
theorem zero_yes {X Y Z W : Int} {P : Pnt} {b : Bool} (h : S4 P (X, Y, Z, W)) (hb : b = true ↔ P = pO) (h1 : X = 0) (h2 : Y.fmod q = Z.fmod q) : true = b := by
  rw [R.self h.r2, R.self h.r3] at h2
  exact (hb.mpr (h.zero_iff.mpr ⟨h1, h2⟩)).symm
theorem zero_no {X Y Z W : Int} {P : Pnt} {b : Bool} (h : S4 P (X, Y, Z, W)) (hb : b = true ↔ P = pO) (h1 : ¬ (X = 0 ∧ Y.fmod q = Z.fmod q)) : false = b := by
  rw [R.self h.r2, R.self h.r3] at h1
  cases b with
  | false => rfl
  | true => exact absurd (h.zero_iff.mp (hb.mp rfl)) h1
theorem zero_abs {X Y Z W : Int} {P : Pnt} (h : S4 P (X, Y, Z, W)) (h2 : Y.fmod q = Z.fmod q) (h3 : Y.fmod q = 0) : False := by
  rw [h2, R.self h.r3] at h3
  exact h.nz h3
theorem c_res (w : World) {news : Led} {x : Int} {tx tq : Tok} (hx : R x) : Does w 98 2 news [.int x tx, .int q tq] (RetB news true) := by
  unfold Does
  k_fill
  intro mean mg mb dp un gd cn cs a ccd cl outer A₀ base h₀ L m s Q E B F X N T hk hdp hun hret
  refine wpAny_call ?_
  k_dflt ktr_enter
  repeat' (first
    | (k_unfold; (try dsimp only))
    | (k_end; kc_close)
    | ((with_reducible show wpAny _ _ (eval (Expr.Constant _ _ _) _) _ _ _); dsimp only; walk1)
    | ((with_reducible show wpAny _ _ (binaryOp _ (Value.int _ _) (Value.int _ _)) _ _ _); dsimp only; walk1)
    | ((with_reducible show wpAny _ _ (eval (Expr.Name _ _) _) _ _ _); k_dflt (refine' nameQ ?nqF ?nqV ?_ ?nqK ?nqA ?nqB; (case nqF => k_asm); (case nqK => first | rfl | assumption); (case nqA => rfl); (case nqB => decide); (case nqV => rfl); k_whole))
    | (with_reducible refine store_gen ?_; intro t' k'; dsimp only; walk1)
    | walk1
    | (dsimp only; walk1)
    | (leave1; (try dsimp only))
    | fail "no step")
  · rename News _ _ _ _ => N3
    exact RetB.go hret (decide_eq_true hx.2) (by k_asm) N3 fun p hp => by k_mem
  · rename ¬ 0 ≤ x => hn
    exact absurd hx.1 hn
theorem c_zero (w : World) {news : Led} {D1 : Addr} {x y z v : Int} {t1 t2 t3 t4 : Tok} {c1 : Nat} {P : Pnt} {b : Bool}
   (m1 : (D1, tupO #[.int x t1, .int y t2, .int z t3, .int v t4] c1) ∈ news) (h1 : S4 P (x, y, z, v)) (hb : b = true ↔ P = pO) :
   Does w 77 2 news [.ref D1] (RetB news b) := by
  obtain ⟨r1, r2, r3, r4, _⟩ := id h1
  dsimp only [tupO] at m1 r1 r2 r3 r4
  unfold Does
  k_fill
  intro mean mg mb dp un gd cn cs a ccd cl outer A₀ base h₀ L m s Q E B F X N T hk hdp hun hret
  refine wpAny_call ?_
  k_dflt ktr_enter
  repeat' (first
    | (k_unfold; (try dsimp only))
    | (k_end; kc_close)
    | ((with_reducible show wpAny _ _ (eval (Expr.Constant _ _ _) _) _ _ _); dsimp only; walk1)
    | ((with_reducible show wpAny _ _ (binaryOp _ (Value.int _ _) (Value.int _ _)) _ _ _); dsimp only; walk1)
    | ((with_reducible show wpAny _ _ (eval (Expr.Name _ _) _) _ _ _); k_dflt (refine' nameQ ?nqF ?nqV ?_ ?nqK ?nqA ?nqB; (case nqF => k_asm); (case nqK => first | rfl | assumption); (case nqA => rfl); (case nqB => decide); (case nqV => rfl); k_whole))
    | (with_reducible refine store_gen ?_; intro t' k'; dsimp only; walk1)
    | walk1
    | (dsimp only; walk1)
    | (leave1; (try dsimp only))
    | fail "no step")
  · rename News _ _ _ _ => N3
    rename x = 0 => h2
    rename Int.fmod y _ = Int.fmod z _ => h3
    exact RetB.go hret (zero_yes h1 hb h2 h3) (by k_asm) N3 fun p hp => by k_mem
  · rename Int.fmod y _ = Int.fmod z _ => h3
    rename Int.fmod y _ = 0 => h4
    exact (zero_abs h1 h3 h4).elim
  · rename News _ _ _ _ => N3
    rename Int.fmod y _ ≠ Int.fmod z _ => h3
    exact RetB.go hret (zero_no h1 hb fun h => h3 h.2) (by k_asm) N3 fun p hp => by k_mem
  · rename News _ _ _ _ => N3
    rename x ≠ 0 => h2
    exact RetB.go hret (zero_no h1 hb fun h => h2 h.1) (by k_asm) N3 fun p hp => by k_mem
theorem c_ares (w : World) {news : Led} {D1 : Addr} {x y z v : Int} {t1 t2 t3 t4 tq : Tok} {c1 : Nat}
   (m1 : (D1, tupO #[.int x t1, .int y t2, .int z t3, .int v t4] c1) ∈ news) (r1 : R x) (r2 : R y) (r3 : R z) (r4 : R v) :
   Does w 138 16 news [.ref D1, .int q tq] (RetB news true) := by
  dsimp only [tupO] at m1
  unfold Does
  k_fill
  intro mean mg mb dp un gd cn cs a ccd cl outer A₀ base h₀ L m s Q E B F X N T hk hdp hun hret
  refine wpAny_call ?_
  k_dflt (refine' code_defC ?k1 ?k2 ?k3 ?k4 ?k5 ?kA ?kF ?kK ?k6 ?k7 ?k8 ?k9 ?kB ?kD ?_ ?c2 ?c3 ?c4; (case kA => exact rfl); (case kF => exact rfl); (case kK => assumption); (case k1 => k_asm); (case k2 => k_asm); (case k3 => k_asm); (case k4 => k_asm); (case k5 => k_asm); (case k6 => k_is); (case k7 => k_is); (case k8 => ktr_room); (case k9 => exact BindsTo.of_eq rfl); (case kB => exact rfl); (case kD => decide +kernel); (case c2 => exact rfl); (case c3 => exact rfl); (case c4 => exact rfl); k_whole; intro g' L' h' tk' cells' FG' F' N' Y' B' X' T' l1; (try k_lt l1); k_cells Y'; (try simp only [List.cons_append, List.nil_append] at N'); (try dsimp only); (try k_lift B'); (try k_fold))
  repeat' (first
    | (k_unfold; (try dsimp only))
    | (k_end; kc_close)
    | ((with_reducible show LCg.CompEnd _ _ _ _ _ _ _ _ _ _ _ _ _ _); (k_dflt (refine LCg.CompEnd.intro (by k_asm) (by assumption) _ (fun _ h => h) (by assumption) (by k_mem) ?_)))
    | ((with_reducible show TupSrc _ _ _ _ _ _ _ _ _ _ _ _ _ _ _); (k_dflt (refine TupSrc.mk (by rfl) (by k_asm) (by k_asm) (by k_mem) (by first | size_fits | exact Nat.le_of_ble_eq_true rfl) ?_); intro g'))
    | ((with_reducible show wpAny _ _ (eval (Expr.ListComp _ _ _ _) _) _ _ _); (k_dflt (refine lc_tuple (by k_asm) (by with_unfolding_all rfl) (by decide) (by rfl) (by decide) (by rfl) ?_)))
    | ((with_reducible show wpAny _ _ (call (Value.ref 98) _) _ _ _); (k_dflt (refine' Does.use ?k1 ?k2 ?k3 ?k4 ?k5 ?kK (c_res _ ?h1) ?kd ?ku ?_; (case k1 => k_asm); (case k2 => k_asm); (case k3 => k_asm); (case k4 => k_asm); (case k5 => k_asm); (case kK => first | exact rfl | assumption); (case h1 => assumption); (case kd => ktr_room); (case ku => ktr_units)); intro h' tk' F' N'; (try dsimp only)))
    | ((with_reducible show wpAny _ _ (eval (Expr.Constant _ _ _) _) _ _ _); dsimp only; walk1)
    | ((with_reducible show wpAny _ _ (binaryOp _ (Value.int _ _) (Value.int _ _)) _ _ _); dsimp only; walk1)
    | ((with_reducible show wpAny _ _ (eval (Expr.Name _ _) _) _ _ _); k_dflt (refine' nameQ ?nqF ?nqV ?_ ?nqK ?nqA ?nqB; (case nqF => k_asm); (case nqK => first | rfl | assumption); (case nqA => rfl); (case nqB => decide); (case nqV => rfl); k_whole))
    | (with_reducible refine store_gen ?_; intro t' k'; dsimp only; walk1)
    | walk1
    | (dsimp only; walk1)
    | (leave1; (try dsimp only))
    | fail "no step")
  rename News _ _ _ _ => N3
  exact RetB.go hret rfl (by k_asm) N3 fun p hp => by k_mem

section
variable {prog : Program} {w : World} {A : Around} {E : Value → Shared → Prop} {s : Shared} {a b : Int} {t u : Tok} {Q : Value → Shared → Prop}
theorem eq_yes (e : a = b) (h : Q (.bool true) s) : wpAny (model prog w) A (compareOp .Eq (.int a t) (.int b u)) Q E s := by
  refine PyProof.Rows.eq_int ?_
  rwa [show (a == b) = true from beq_iff_eq.mpr e]
theorem eq_no (e : a ≠ b) (h : Q (.bool false) s) : wpAny (model prog w) A (compareOp .Eq (.int a t) (.int b u)) Q E s := by
  refine PyProof.Rows.eq_int ?_
  rwa [show (a == b) = false from beq_eq_false_iff_ne.mpr e]
theorem ne_no (e : a = b) (h : Q (.bool false) s) : wpAny (model prog w) A (compareOp .NotEq (.int a t) (.int b u)) Q E s := by
  refine PyProof.Rows.ne_int ?_
  rwa [show (a != b) = false by rw [bne_eq_false_iff_eq]; exact e]
theorem ne_yes (e : a ≠ b) (h : Q (.bool true) s) : wpAny (model prog w) A (compareOp .NotEq (.int a t) (.int b u)) Q E s := by
  refine PyProof.Rows.ne_int ?_
  rwa [show (a != b) = true by rw [bne_iff_ne]; exact e]
end
theorem c_stands (w : World) {news : Led} {D1 D2 : Addr} {f0 f1 f2 f3 x y z : Int} {t1 t2 t3 t4 u1 u2 u3 tq : Tok} {c1 c2 : Nat} {P : Pnt}
   (m1 : (D1, tupO #[.int f0 t1, .int f1 t2, .int f2 t3, .int f3 t4] c1) ∈ news) (m2 : (D2, tupO #[.int x u1, .int y u2, .int z u3] c2) ∈ news)
   (h1 : S4 P (f0, f1, f2, f3)) (h2 : S3 P (x, y, z)) :
   Does w 145 18 news [.ref D1, .ref D2, .int q tq] (RetB news true) := by
  obtain ⟨r1, r2, r3, r4, _⟩ := id h1
  obtain ⟨r5, r6, r7, _⟩ := id h2
  have nz := h1.nz
  obtain ⟨e1, e2, e3⟩ := h1.stands h2
  dsimp only [tupO] at m1 m2 r1 r2 r3 r4 r5 r6 r7
  unfold Does
  k_fill
  intro mean mg mb dp un gd cn cs a ccd cl outer A₀ base h₀ L m s Q E B F X N T hk hdp hun hret
  refine wpAny_call ?_
  k_dflt ktr_enter
  repeat' (first
    | (k_unfold; (try dsimp only))
    | (k_end; kc_close)
    | ((with_reducible show wpAny _ _ (call (Value.ref 138) _) _ _ _); (k_dflt (refine' Does.use ?k1 ?k2 ?k3 ?k4 ?k5 ?kK (c_ares _ ?m1 ?h1 ?h2 ?h3 ?h4) ?kd ?ku ?_; (case k1 => k_asm); (case k2 => k_asm); (case k3 => k_asm); (case k4 => k_asm); (case k5 => k_asm); (case kK => first | exact rfl | assumption); (case m1 => k_mem); (case h1 => assumption); (case h2 => assumption); (case h3 => assumption); (case h4 => assumption); (case kd => ktr_room); (case ku => ktr_units)); intro h' tk' F' N'; (try dsimp only)))
    | ((with_reducible show wpAny _ _ (compareOp CmpOp.NotEq (Value.int _ _) (Value.int _ _)) _ _ _); first | (with_reducible refine ne_no (by with_reducible assumption) ?_) | (with_reducible refine ne_yes (by with_reducible assumption) ?_))
    | ((with_reducible show wpAny _ _ (compareOp CmpOp.Eq (Value.int _ _) (Value.int _ _)) _ _ _); first | (with_reducible refine eq_yes (by with_reducible assumption) ?_) | (with_reducible refine eq_no (by with_reducible assumption) ?_))
    | ((with_reducible show wpAny _ _ (eval (Expr.Constant _ _ _) _) _ _ _); dsimp only; walk1)
    | ((with_reducible show wpAny _ _ (binaryOp _ (Value.int _ _) (Value.int _ _)) _ _ _); dsimp only; walk1)
    | ((with_reducible show wpAny _ _ (eval (Expr.Name _ _) _) _ _ _); k_dflt (refine' nameQ ?nqF ?nqV ?_ ?nqK ?nqA ?nqB; (case nqF => k_asm); (case nqK => first | rfl | assumption); (case nqA => rfl); (case nqB => decide); (case nqV => rfl); k_whole))
    | (with_reducible refine store_gen ?_; intro t' k'; dsimp only; walk1)
    | walk1
    | (dsimp only; walk1)
    | (leave1; (try dsimp only))
    | fail "no step")
  rename News _ _ _ _ => N3
  exact RetB.go hret rfl (by k_asm) N3 fun p hp => by k_mem


abbrev RetI (news : Led) (Ψ : Int → Prop) (h₀ : Heap) (L : Addr) (m : Str → Option Value) (s : Shared) (Q : Value → Shared → Prop) : Prop :=
  ∀ (r : Int) (t : Tok) (h' : Heap) (tk' : Nat), Ψ r → Fr h₀ L h' m → News h₀ L h' news → Q (.int r t) { s with heap := h', toks := tk' }
abbrev Ret2 (news : Led) (Φ : Int → Int → Prop) (h₀ : Heap) (L : Addr) (m : Str → Option Value) (s : Shared) (Q : Value → Shared → Prop) : Prop :=
  ∀ (D : Addr) (x y : Int) (t1 t2 : Tok) (c : Nat) (h' : Heap) (tk' : Nat), Φ x y → Fr h₀ L h' m → News h₀ L h' ((D, tupO #[.int x t1, .int y t2] c) :: news) → Q (.ref D) { s with heap := h', toks := tk' }
theorem Ret2.go {news : Led} {Φ : Int → Int → Prop} {h₀ : Heap} {L : Addr} {m : Str → Option Value} {s : Shared} {Q : Value → Shared → Prop} {D : Addr} {x y : Int} {t1 t2 : Tok} {c : Nat} {h' : Heap} {tk' : Nat} (hret : Ret2 news Φ h₀ L m s Q) (F : Fr h₀ L h' m) (N : News h₀ L h' ((D, tupO #[.int x t1, .int y t2] c) :: news)) (h : Φ x y) : Q (.ref D) { s with heap := h', toks := tk' } := hret D x y t1 t2 c h' tk' h F N
theorem powMod_go (b e m : Nat) : ∀ (n a x : Nat), a = b ^ x % m → (List.range n).reverse.foldl (fun p i => if e.testBit i then p * p % m * b % m else p * p % m) a = b ^ (x * 2 ^ n + e % 2 ^ n) % m
  | 0, a, x, h => by
    rw [Nat.pow_zero, Nat.mul_one, Nat.mod_one, Nat.add_zero, ← h]; rfl
  | n + 1, a, x, h => by
    have sq : a * a % m = b ^ (2 * x) % m := by rw [h, ← Nat.mul_mod, ← Nat.pow_add, Nat.two_mul]
    rw [List.range_succ, List.reverse_append, List.reverse_singleton, List.singleton_append, List.foldl_cons]
    by_cases hb : e.testBit n = true
    · rw [if_pos hb, powMod_go b e m n _ (2 * x + 1) (by rw [sq, Nat.pow_succ, Nat.mul_mod, Nat.mod_mod, ← Nat.mul_mod])]
      rw [Nat.testBit_eq_decide_div_mod_eq, decide_eq_true_eq] at hb
      rw [Nat.mod_pow_succ, hb]
      congr 2
      rw [Nat.pow_succ, Nat.add_mul, Nat.mul_comm 2 x, Nat.mul_assoc x, Nat.mul_comm 2]
      omega
    · rw [if_neg hb, powMod_go b e m n _ (2 * x) sq]
      rw [Nat.testBit_eq_decide_div_mod_eq, decide_eq_true_eq] at hb
      rw [Nat.mod_pow_succ, show e / 2 ^ n % 2 = 0 by omega]
      congr 2
      rw [Nat.pow_succ, Nat.mul_comm 2 x, Nat.mul_assoc x, Nat.mul_comm 2]
      omega
theorem powMod_eq (b e m : Nat) : Builtin.powMod b e m = b ^ e % m := by
  unfold Builtin.powMod
  rw [powMod_go b e m _ _ 0 (by rw [Nat.pow_zero]), Nat.zero_mul, Nat.zero_add]
  have h := natAbs_lt_pow_bits (e : Int)
  rw [Int.natAbs_natCast] at h
  rw [Nat.mod_eq_of_lt h]
theorem inv_ok {z : Int} (hz : R z) (h0 : z ≠ 0) : R (Builtin.powMod (z % q).toNat (q - 2).natAbs q.natAbs : Nat) ∧ φ z * φ (Builtin.powMod (z % q).toNat (q - 2).natAbs q.natAbs : Nat) = 1 := by
  rw [powMod_eq, Int.emod_eq_of_lt hz.1 hz.2, show (q - 2).natAbs = qn - 2 by decide, show q.natAbs = qn by decide]
  constructor
  · have : z.toNat ^ (qn - 2) % qn < qn := Nat.mod_lt _ (by decide)
    generalize z.toNat ^ (qn - 2) % qn = y at *
    exact ⟨by omega, by unfold q qn at *; omega⟩
  · have e : φ z = Fin.ofNat qn z.toNat := φ_pos z hz.1
    have hv : (φ z).val = z.toNat := by
      rw [e]
      have := hz.1; have := hz.2
      exact Nat.mod_eq_of_lt (by unfold q qn at *; omega)
    have k : φ ((z.toNat ^ (qn - 2) % qn : Nat) : Int) = iv (φ z) := by
      rw [φ_nat]
      unfold iv
      rw [pm_eq qn 256 _ _ (by decide), hv]
    rw [k]
    exact iv_mul _ fun h => h0 ((R.zero_iff hz).mp h)
theorem c_inv (w : World) {news : Led} {z : Int} {tz : Tok} (hz : R z) (h0 : z ≠ 0) : Does w 21 4 news [.int z tz] (RetI news (fun r => R r ∧ φ z * φ r = 1)) := by
  unfold Does
  k_fill
  intro mean mg mb dp un gd cn cs a ccd cl outer A₀ base h₀ L m s Q E B F X N T hk hdp hun hret
  refine wpAny_call ?_
  k_dflt ktr_enter
  repeat' (first
    | (k_unfold; (try dsimp only))
    | (k_end; kc_close)
    | ((with_reducible show wpAny _ _ (call (Value.builtin "pow") _) _ _ _); (refine call_pow3 (by decide) (by decide) ?_))
    | ((with_reducible show wpAny _ _ (compareOp CmpOp.NotEq (Value.int _ _) (Value.int _ _)) _ _ _); first | (with_reducible refine ne_no (by with_reducible assumption) ?_) | (with_reducible refine ne_yes (by with_reducible assumption) ?_))
    | ((with_reducible show wpAny _ _ (compareOp CmpOp.Eq (Value.int _ _) (Value.int _ _)) _ _ _); first | (with_reducible refine eq_yes (by with_reducible assumption) ?_) | (with_reducible refine eq_no (by with_reducible assumption) ?_))
    | ((with_reducible show wpAny _ _ (eval (Expr.Constant _ _ _) _) _ _ _); dsimp only; walk1)
    | ((with_reducible show wpAny _ _ (binaryOp _ (Value.int _ _) (Value.int _ _)) _ _ _); dsimp only; walk1)
    | ((with_reducible show wpAny _ _ (eval (Expr.Name _ _) _) _ _ _); k_dflt (refine' nameQ ?nqF ?nqV ?_ ?nqK ?nqA ?nqB; (case nqF => k_asm); (case nqK => first | rfl | assumption); (case nqA => rfl); (case nqB => decide); (case nqV => rfl); k_whole))
    | (with_reducible refine store_gen ?_; intro t' k'; dsimp only; walk1)
    | walk1
    | (dsimp only; walk1)
    | (leave1; (try dsimp only))
    | fail "no step")
  rename News _ _ _ _ => N3
  exact hret _ _ _ _ (inv_ok hz h0) (by k_asm) N3

theorem aff_ok {X Z r p : Int} {P : Fq} (hx : φ X = P * φ Z) (hr : φ Z * φ r = 1) (e : p = (X * r).fmod q) : R p ∧ φ p = P := by
  subst e
  refine ⟨R_fmod _, ?_⟩
  rw [φ_fmod, φ_mul, hx, Lean.Grind.Semiring.mul_assoc, hr, Lean.Grind.Semiring.mul_one]
theorem c_toaff (w : World) {news : Led} {D1 : Addr} {f0 f1 f2 f3 : Int} {t1 t2 t3 t4 : Tok} {c1 : Nat} {P : Pnt}
   (m1 : (D1, tupO #[.int f0 t1, .int f1 t2, .int f2 t3, .int f3 t4] c1) ∈ news) (h1 : S4 P (f0, f1, f2, f3)) :
   Does w 35 6 news [.ref D1] (Ret2 news (fun x y => (R x ∧ φ x = P.x) ∧ (R y ∧ φ y = P.y))) := by
  obtain ⟨r1, r2, r3, r4, rp⟩ := id h1
  have nz := h1.nz
  have ex := rp.ex
  have ey := rp.ey
  clear rp
  dsimp only [tupO] at m1 r1 r2 r3 r4 ex ey
  unfold Does
  k_fill
  intro mean mg mb dp un gd cn cs a ccd cl outer A₀ base h₀ L m s Q E B F X N T hk hdp hun hret
  refine wpAny_call ?_
  k_dflt ktr_enter
  repeat' (first
    | (k_unfold; (try dsimp only))
    | (k_end; kc_close)
    | ((with_reducible show wpAny _ _ (call (Value.ref 21) _) _ _ _); (k_dflt (refine' Does.use ?k1 ?k2 ?k3 ?k4 ?k5 ?kK (c_inv _ ?h1 ?h2) ?kd ?ku ?_; (case k1 => k_asm); (case k2 => k_asm); (case k3 => k_asm); (case k4 => k_asm); (case k5 => k_asm); (case kK => first | exact rfl | assumption); (case h1 => assumption); (case h2 => assumption); (case kd => ktr_room); (case ku => ktr_units)); rintro r' t1' h' tk' ⟨hR', hS'⟩ F' N'; (try dsimp only)))
    | ((with_reducible show wpAny _ _ (call (Value.builtin "pow") _) _ _ _); (refine call_pow3 (by decide) (by decide) ?_))
    | ((with_reducible show wpAny _ _ (compareOp CmpOp.NotEq (Value.int _ _) (Value.int _ _)) _ _ _); first | (with_reducible refine ne_no (by with_reducible assumption) ?_) | (with_reducible refine ne_yes (by with_reducible assumption) ?_))
    | ((with_reducible show wpAny _ _ (compareOp CmpOp.Eq (Value.int _ _) (Value.int _ _)) _ _ _); first | (with_reducible refine eq_yes (by with_reducible assumption) ?_) | (with_reducible refine eq_no (by with_reducible assumption) ?_))
    | ((with_reducible show wpAny _ _ (eval (Expr.Constant _ _ _) _) _ _ _); dsimp only; walk1)
    | ((with_reducible show wpAny _ _ (binaryOp _ (Value.int _ _) (Value.int _ _)) _ _ _); dsimp only; walk1)
    | ((with_reducible show wpAny _ _ (eval (Expr.Name _ _) _) _ _ _); k_dflt (refine' nameQ ?nqF ?nqV ?_ ?nqK ?nqA ?nqB; (case nqF => k_asm); (case nqK => first | rfl | assumption); (case nqA => rfl); (case nqB => decide); (case nqV => rfl); k_whole))
    | (with_reducible refine store_gen ?_; intro t' k'; dsimp only; walk1)
    | walk1
    | (dsimp only; walk1)
    | (leave1; (try dsimp only))
    | fail "no step")
  exact Ret2.go hret (by k_asm) (by k_asm) ⟨aff_ok ex (by assumption) rfl, aff_ok ey (by assumption) rfl⟩


theorem back_x {P : Pnt} {px py pz b : Int} (h : S3 P (px, py, pz)) (hx : φ b = P.x) : (b * pz - px).fmod q = 0 := by
  have e := h.rep.ex
  have : φ (b * pz - px) = 0 := by
    rw [φ_sub, φ_mul, hx, show φ px = _ from e]
    exact Lean.Grind.AddCommGroup.sub_eq_zero_iff.mpr rfl
  rw [Int.fmod_eq_emod_of_nonneg _ (by decide)]
  exact (φ_zero_iff _).mp this
theorem back_y {P : Pnt} {px py pz b : Int} (h : S3 P (px, py, pz)) (hx : φ b = P.y) : (b * pz - py).fmod q = 0 := by
  have e := h.rep.ey
  have : φ (b * pz - py) = 0 := by
    rw [φ_sub, φ_mul, hx, show φ py = _ from e]
    exact Lean.Grind.AddCommGroup.sub_eq_zero_iff.mpr rfl
  rw [Int.fmod_eq_emod_of_nonneg _ (by decide)]
  exact (φ_zero_iff _).mp this

theorem c_isback (w : World) {news : Led} {D1 D2 : Addr} {f0 f1 f2 f3 x y z : Int} {t1 t2 t3 t4 u1 u2 u3 tq : Tok} {c1 c2 : Nat} {P : Pnt}
   (m1 : (D1, tupO #[.int f0 t1, .int f1 t2, .int f2 t3, .int f3 t4] c1) ∈ news) (m2 : (D2, tupO #[.int x u1, .int y u2, .int z u3] c2) ∈ news)
   (h1 : S4 P (f0, f1, f2, f3)) (h2 : S3 P (x, y, z)) :
   Does w 173 18 news [.ref D1, .ref D2, .int q tq] (RetB news true) := by
  obtain ⟨r5, r6, r7, _⟩ := id h2
  dsimp only [tupO] at m1 m2 r5 r6 r7
  unfold Does
  k_fill
  intro mean mg mb dp un gd cn cs a ccd cl outer A₀ base h₀ L m s Q E B F X N T hk hdp hun hret
  refine wpAny_call ?_
  k_dflt ktr_enter
  repeat' (first
    | (k_unfold; (try dsimp only))
    | (k_end; kc_close)
    | ((with_reducible show wpAny _ _ (call (Value.ref 98) _) _ _ _); (k_dflt (refine' Does.use ?k1 ?k2 ?k3 ?k4 ?k5 ?kK (c_res _ ?h1) ?kd ?ku ?_; (case k1 => k_asm); (case k2 => k_asm); (case k3 => k_asm); (case k4 => k_asm); (case k5 => k_asm); (case kK => first | exact rfl | assumption); (case h1 => assumption); (case kd => ktr_room); (case ku => ktr_units)); intro h' tk' F' N'; (try dsimp only)))
    | ((with_reducible show wpAny _ _ (call (Value.ref 35) _) _ _ _); (k_dflt (refine' Does.use ?k1 ?k2 ?k3 ?k4 ?k5 ?kK (c_toaff _ ?m1 ?h1) ?kd ?ku ?_; (case k1 => k_asm); (case k2 => k_asm); (case k3 => k_asm); (case k4 => k_asm); (case k5 => k_asm); (case kK => first | exact rfl | assumption); (case m1 => k_mem); (case h1 => assumption); (case kd => ktr_room); (case ku => ktr_units)); rintro D' x' y' t1' t2' c' h' tk' ⟨⟨hR1', hx1'⟩, ⟨hR2', hx2'⟩⟩ F' N'; (have hB1' := back_x (by assumption) hx1'); (have hB2' := back_y (by assumption) hx2'); (try dsimp only)))
    | ((with_reducible show wpAny _ _ (compareOp CmpOp.NotEq (Value.int _ _) (Value.int _ _)) _ _ _); first | (with_reducible refine ne_no (by with_reducible assumption) ?_) | (with_reducible refine ne_yes (by with_reducible assumption) ?_))
    | ((with_reducible show wpAny _ _ (compareOp CmpOp.Eq (Value.int _ _) (Value.int _ _)) _ _ _); first | (with_reducible refine eq_yes (by with_reducible assumption) ?_) | (with_reducible refine eq_no (by with_reducible assumption) ?_))
    | ((with_reducible show wpAny _ _ (eval (Expr.Constant _ _ _) _) _ _ _); dsimp only; walk1)
    | ((with_reducible show wpAny _ _ (binaryOp _ (Value.int _ _) (Value.int _ _)) _ _ _); dsimp only; walk1)
    | ((with_reducible show wpAny _ _ (eval (Expr.Name _ _) _) _ _ _); k_dflt (refine' nameQ ?nqF ?nqV ?_ ?nqK ?nqA ?nqB; (case nqF => k_asm); (case nqK => first | rfl | assumption); (case nqA => rfl); (case nqB => decide); (case nqV => rfl); k_whole))
    | (with_reducible refine store_gen ?_; intro t' k'; dsimp only; walk1)
    | walk1
    | (dsimp only; walk1)
    | (leave1; (try dsimp only))
    | fail "no step")
  rename News _ _ _ _ => N3
  exact RetB.go hret rfl (by k_asm) N3 fun p hp => by k_mem

theorem c_isaff (w : World) {news : Led} {D1 : Addr} {x y : Int} {t0 t1 tq : Tok} {c1 : Nat} (m1 : (D1, tupO #[.int x t0, .int y t1] c1) ∈ news) (hm : IntMulOk x y) :
   Does w 166 20 news [.ref D1, .int q tq] (RetB news true) := by
  dsimp only [tupO] at m1
  unfold Does
  k_fill
  intro mean mg mb dp un gd cn cs a ccd cl outer A₀ base h₀ L m s Q E B F X N T hk hdp hun hret
  refine wpAny_call ?_
  k_dflt ktr_enter
  repeat' (first
    | (k_unfold; (try dsimp only))
    | (k_end; kc_close)
    | ((with_reducible show wpAny _ _ (call (Value.ref 138) _) _ _ _); (k_dflt (refine' Does.use ?k1 ?k2 ?k3 ?k4 ?k5 ?kK (c_ares _ ?m1 ?h1 ?h2 ?h3 ?h4) ?kd ?ku ?_; (case k1 => k_asm); (case k2 => k_asm); (case k3 => k_asm); (case k4 => k_asm); (case k5 => k_asm); (case kK => first | exact rfl | assumption); (case m1 => k_mem); (case h1 => exact R_fmod _); (case h2 => exact R_fmod _); (case h3 => exact R_of (by decide)); (case h4 => exact R_fmod _); (case kd => ktr_room); (case ku => ktr_units)); intro h' tk' F' N'; (try dsimp only)))
    | ((with_reducible show wpAny _ _ (call (Value.ref 28) _) _ _ _); (k_dflt (refine' Does.use ?k1 ?k2 ?k3 ?k4 ?k5 ?kK (c_aff _ ?m1 ?h1) ?kd ?ku ?_; (case k1 => k_asm); (case k2 => k_asm); (case k3 => k_asm); (case k4 => k_asm); (case k5 => k_asm); (case kK => first | exact rfl | assumption); (case m1 => k_mem); (case h1 => assumption); (case kd => ktr_room); (case ku => ktr_units)); intro D' x' y' z' w' t1' t2' t3' t4' c' h' tk' hS' F' N'; (simp only [Prod.mk.injEq] at hS'; obtain ⟨e1, e2, e3, e4⟩ := hS'; subst e1 e2 e3 e4); (try dsimp only)))
    | ((with_reducible show wpAny _ _ (call (Value.ref 98) _) _ _ _); (k_dflt (refine' Does.use ?k1 ?k2 ?k3 ?k4 ?k5 ?kK (c_res _ ?h1) ?kd ?ku ?_; (case k1 => k_asm); (case k2 => k_asm); (case k3 => k_asm); (case k4 => k_asm); (case k5 => k_asm); (case kK => first | exact rfl | assumption); (case h1 => assumption); (case kd => ktr_room); (case ku => ktr_units)); intro h' tk' F' N'; (try dsimp only)))
    | ((with_reducible show wpAny _ _ (call (Value.ref 35) _) _ _ _); (k_dflt (refine' Does.use ?k1 ?k2 ?k3 ?k4 ?k5 ?kK (c_toaff _ ?m1 ?h1) ?kd ?ku ?_; (case k1 => k_asm); (case k2 => k_asm); (case k3 => k_asm); (case k4 => k_asm); (case k5 => k_asm); (case kK => first | exact rfl | assumption); (case m1 => k_mem); (case h1 => assumption); (case kd => ktr_room); (case ku => ktr_units)); rintro D' x' y' t1' t2' c' h' tk' ⟨⟨hR1', hx1'⟩, ⟨hR2', hx2'⟩⟩ F' N'; (have hB1' := back_x (by assumption) hx1'); (have hB2' := back_y (by assumption) hx2'); (try dsimp only)))
    | ((with_reducible show wpAny _ _ (compareOp CmpOp.NotEq (Value.int _ _) (Value.int _ _)) _ _ _); first | (with_reducible refine ne_no (by with_reducible assumption) ?_) | (with_reducible refine ne_yes (by with_reducible assumption) ?_))
    | ((with_reducible show wpAny _ _ (compareOp CmpOp.Eq (Value.int _ _) (Value.int _ _)) _ _ _); first | (with_reducible refine eq_yes (by with_reducible assumption) ?_) | (with_reducible refine eq_no (by with_reducible assumption) ?_))
    | ((with_reducible show wpAny _ _ (eval (Expr.Constant _ _ _) _) _ _ _); dsimp only; walk1)
    | ((with_reducible show wpAny _ _ (binaryOp _ (Value.int _ _) (Value.int _ _)) _ _ _); dsimp only; walk1)
    | ((with_reducible show wpAny _ _ (eval (Expr.Name _ _) _) _ _ _); k_dflt (refine' nameQ ?nqF ?nqV ?_ ?nqK ?nqA ?nqB; (case nqF => k_asm); (case nqK => first | rfl | assumption); (case nqA => rfl); (case nqB => decide); (case nqV => rfl); k_whole))
    | (with_reducible refine store_gen ?_; intro t' k'; dsimp only; walk1)
    | walk1
    | (dsimp only; walk1)
    | (leave1; (try dsimp only))
    | fail "no step")
  rename News _ _ _ _ => N3
  exact RetB.go hret rfl (by k_asm) N3 fun p hp => by k_mem


abbrev RetC (news : Led) (h₀ : Heap) (L : Addr) (m : Str → Option Value) (s : Shared) (Q : Value → Shared → Prop) : Prop :=
  ∀ (D D1 D2 : Addr) (m1 a1 m2 a2 : Int) (t1 t2 t3 t4 : Tok) (c c1 c2 : Nat) (h' : Heap) (tk' : Nat), (m1.natAbs ≤ 40 ∧ 0 ≤ a1 ∧ a1 < 8) → (m2.natAbs ≤ 40 ∧ 0 ≤ a2 ∧ a2 < 8) → Fr h₀ L h' m →
    News h₀ L h' ((D, tupO #[.ref D1, .ref D2] c) :: (D1, tupO #[.int m1 t1, .int a1 t2] c1) :: (D2, tupO #[.int m2 t3, .int a2 t4] c2) :: news) → Q (.ref D) { s with heap := h', toks := tk' }
def DoesL (w : World) (f : Addr) (sz : Nat) (news : Led) (l : Addr) (vs : List Value) (ns : List Int) (args : List Value) (Ret : Heap → Addr → (Str → Option Value) → Shared → (Value → Shared → Prop) → Prop) : Prop :=
  ∀ (mean : ExcName → Option Value) (mg mb : Str → Option Value) (dp un : Nat) (gd : Option (List Code)) (cn : Str) (cs : Scope) (a : Addr) (ccd : Value) (cl : List (Str × Addr)) (outer : List Env) (A₀ : Around) (base h₀ : Heap) (L : Addr) (m : Str → Option Value) (s : Shared) (Q E : Value → Shared → Prop),
    Below A₀ base outer h₀ → Fr h₀ L s.heap m → (hd.heap_39 w.params).In h₀ → News h₀ L s.heap news → Top hd.view_39 (looseW hd.view_39 []) mean mg mb h₀ → cs.kind = .function →
    base.IsList l vs.toArray → IntsAre vs ns → ns.length < 2 ^ 62 →
    dp + sz < recursionLimit → un + 8 * sz < cLine → Ret h₀ L m s Q →
    wpAny (model PySem.Challenge.rw_jv0022_01.row.prog w) (ktrTop dp un gd cn cs L a ccd cl outer) (call (.ref f) args) Q E s
section
variable {prog : Program} {w : World} {A : Around} {E : Value → Shared → Prop} {s : Shared} {a x : Int} {t u : Tok} {Q : Value → Shared → Prop}
theorem abs_any (h : ∀ r u tk, 0 ≤ r → Q (.int r u) { s with toks := tk }) : wpAny (model prog w) A (call (.builtin "abs") [.int a t]) Q E s :=
  PyProof.Rows.call_abs_int fun u tk => h _ u tk (nonneg_abs a)
theorem tail_six {value slice : PySem.Expr} {l : Addr} (h0 : x.fmod 6 = 0 → wpAny (model prog w) A (subscriptTail value slice (.ref l) (.int 0 u)) Q E s) (h1 : x.fmod 6 = 1 → wpAny (model prog w) A (subscriptTail value slice (.ref l) (.int 1 u)) Q E s)
    (h2 : x.fmod 6 = 2 → wpAny (model prog w) A (subscriptTail value slice (.ref l) (.int 2 u)) Q E s) (h3 : x.fmod 6 = 3 → wpAny (model prog w) A (subscriptTail value slice (.ref l) (.int 3 u)) Q E s)
    (h4 : x.fmod 6 = 4 → wpAny (model prog w) A (subscriptTail value slice (.ref l) (.int 4 u)) Q E s) (h5 : x.fmod 6 = 5 → wpAny (model prog w) A (subscriptTail value slice (.ref l) (.int 5 u)) Q E s) :
    wpAny (model prog w) A (subscriptTail value slice (.ref l) (.int (x.fmod 6) u)) Q E s := by
  have e : x.fmod 6 = x % 6 := Int.fmod_eq_emod_of_nonneg _ (by decide)
  rcases (show x.fmod 6 = 0 ∨ x.fmod 6 = 1 ∨ x.fmod 6 = 2 ∨ x.fmod 6 = 3 ∨ x.fmod 6 = 4 ∨ x.fmod 6 = 5 by omega) with k | k | k | k | k | k <;> rw [k]
  · exact h0 k
  · exact h1 k
  · exact h2 k
  · exact h3 k
  · exact h4 k
  · exact h5 k
end
theorem RetC.go {news news' : Led} {h₀ h' : Heap} {L : Addr} {m : Str → Option Value} {s : Shared} {Q : Value → Shared → Prop} {D D1 D2 : Addr} {m1 a1 m2 a2 : Int} {t1 t2 t3 t4 : Tok} {c c1 c2 : Nat} {tk' : Nat} (hret : RetC news h₀ L m s Q) (F : Fr h₀ L h' m) (N : News h₀ L h' news')
    (e : (D, tupO #[.ref D1, .ref D2] c) ∈ news') (e1 : (D1, tupO #[.int m1 t1, .int a1 t2] c1) ∈ news') (e2 : (D2, tupO #[.int m2 t3, .int a2 t4] c2) ∈ news') (b1 : m1.natAbs ≤ 40) (k1 : 0 ≤ a1 ∧ a1 < 8) (b2 : m2.natAbs ≤ 40) (k2 : 0 ≤ a2 ∧ a2 < 8) (hs : ∀ p ∈ news, p ∈ news') : Q (.ref D) { s with heap := h', toks := tk' } :=
  hret D D1 D2 m1 a1 m2 a2 t1 t2 t3 t4 c c1 c2 h' tk' ⟨b1, k1⟩ ⟨b2, k2⟩ F fun p hp => by
    rcases List.mem_cons.mp hp with rfl | hp
    · exact N _ e
    rcases List.mem_cons.mp hp with rfl | hp
    · exact N _ e1
    rcases List.mem_cons.mp hp with rfl | hp
    · exact N _ e2
    exact N _ (hs p hp)
theorem b_81 (x : Int) : (x.fmod 81 - 40).natAbs ≤ 40 := by rw [Int.fmod_eq_emod_of_nonneg _ (by decide)]; omega
theorem b_menu (x : Int) (k : Nat) : ([1, 0, 2, x.fmod 41].getD k 0).natAbs ≤ 40 := by
  have h : (x.fmod 41).natAbs ≤ 40 := by rw [Int.fmod_eq_emod_of_nonneg _ (by decide)]; omega
  match k with
  | 0 => exact (by decide : (1:Int).natAbs ≤ 40)
  | 1 => exact (by decide : (0:Int).natAbs ≤ 40)
  | 2 => exact (by decide : (2:Int).natAbs ≤ 40)
  | 3 => exact h
  | k + 4 => exact (by decide : (0:Int).natAbs ≤ 40)
theorem b_neg {x : Int} (h : x.natAbs ≤ 40) : (-x).natAbs ≤ 40 := by omega
theorem t_8 (x : Int) : 0 ≤ x.fmod 8 ∧ x.fmod 8 < 8 := by rw [Int.fmod_eq_emod_of_nonneg _ (by decide)]; omega
theorem c_counts (w : World) {news : Led} {l : Addr} {vs : List Value} {ns : List Int} : DoesL w 152 6 news l vs ns [.ref l] (RetC news) := by
  unfold DoesL
  k_fill
  intro mean mg mb dp un gd cn cs a ccd cl outer A₀ base h₀ L m s Q E B F X N T hk hl hi hlen hdp hun hret
  refine wpAny_call ?_
  (first | k_dflt cell_enter | fail "not entered")
  repeat' (first
    | (k_unfold; (try dsimp only))
    | (k_end; kc_close)
    | ((with_reducible show wpAny _ _ (subscriptTail _ _ (Value.ref _) (Value.int (Int.fmod _ 6) _)) _ _ _); (refine tail_six ?_ ?_ ?_ ?_ ?_ ?_) <;> intro h6')
    | ((with_reducible show wpAny _ _ (call (Value.builtin "abs") _) _ _ _); (refine abs_any ?_; intro r' u' tk' h0'; (try dsimp only)))
    | ((with_reducible show wpAny _ _ (eval (Expr.Constant _ _ _) _) _ _ _); dsimp only; walk1)
    | ((with_reducible show wpAny _ _ (binaryOp _ (Value.int _ _) (Value.int _ _)) _ _ _); dsimp only; walk1)
    | ((with_reducible show wpAny _ _ (eval (Expr.Name _ _) _) _ _ _); k_dflt (refine' nameQ ?nqF ?nqV ?_ ?nqK ?nqA ?nqB; (case nqF => k_asm); (case nqK => first | rfl | assumption); (case nqA => rfl); (case nqB => decide); (case nqV => rfl); k_whole))
    | (with_reducible refine store_gen ?_; intro t' k'; dsimp only; walk1)
    | walk1
    | (dsimp only; walk1)
    | (leave1; (try dsimp only))
    | fail "no step")
  all_goals (
    rename News _ _ _ _ => N3
    exact RetC.go hret (by k_asm) N3 (by k_mem) (by k_mem) (by k_mem) (by first | exact b_81 _ | exact b_menu _ _ | exact b_neg (b_81 _) | exact b_neg (b_menu _ _) | decide) (by first | exact t_8 _ | decide) (by first | exact b_81 _ | exact b_menu _ _ | exact b_neg (b_81 _) | exact b_neg (b_menu _ _) | decide) (by first | exact t_8 _ | decide) (fun p hp => by k_mem))


theorem prime_val : (2:Int) ^ Int.toNat 255 - 19 = q := by decide +kernel
theorem c_prime (w : World) {news : Led} : Does w 91 2 news [] (fun h₀ L m s Q => ∀ (t : Tok) (h' : Heap) (tk' : Nat), Fr h₀ L h' m → News h₀ L h' news → Q (.int q t) { s with heap := h', toks := tk' }) := by
  unfold Does
  k_fill
  intro mean mg mb dp un gd cn cs a ccd cl outer A₀ base h₀ L m s Q E B F X N T hk hdp hun hret
  refine wpAny_call ?_
  k_dflt ktr_enter
  repeat' (first
    | (k_unfold; (try dsimp only))
    | (k_end; kc_close)
    | ((with_reducible show wpAny _ _ (compareOp CmpOp.NotEq (Value.int _ _) (Value.int _ _)) _ _ _); first | (with_reducible refine ne_no (by with_reducible assumption) ?_) | (with_reducible refine ne_yes (by with_reducible assumption) ?_))
    | ((with_reducible show wpAny _ _ (compareOp CmpOp.Eq (Value.int _ _) (Value.int _ _)) _ _ _); first | (with_reducible refine eq_yes (by with_reducible assumption) ?_) | (with_reducible refine eq_no (by with_reducible assumption) ?_))
    | ((with_reducible show wpAny _ _ (eval (Expr.Constant _ _ _) _) _ _ _); dsimp only; walk1)
    | ((with_reducible show wpAny _ _ (binaryOp _ (Value.int _ _) (Value.int _ _)) _ _ _); dsimp only; walk1)
    | ((with_reducible show wpAny _ _ (eval (Expr.Name _ _) _) _ _ _); k_dflt (refine' nameQ ?nqF ?nqV ?_ ?nqK ?nqA ?nqB; (case nqF => k_asm); (case nqK => first | rfl | assumption); (case nqA => rfl); (case nqB => decide); (case nqV => rfl); k_whole))
    | (with_reducible refine store_gen ?_; intro t' k'; dsimp only; walk1)
    | walk1
    | (dsimp only; walk1)
    | (leave1; (try dsimp only))
    | fail "no step")
  rw [prime_val]
  exact hret _ _ _ (by k_asm) (by k_asm)
theorem DoesL.use {w : World} {f : Addr} {sz : Nat} {news : Led} {l : Addr} {vs : List Value} {ns : List Int} {args : List Value} {Ret : Heap → Addr → (Str → Option Value) → Shared → (Value → Shared → Prop) → Prop}
    {mean : ExcName → Option Value} {mg mb : Str → Option Value} {dp un : Nat} {gd : Option (List Code)} {cn : Str} {cs : Scope} {a : Addr} {ccd : Value} {cl : List (Str × Addr)} {outer : List Env} {A₀ : Around} {base h₀ : Heap} {L : Addr} {m : Str → Option Value} {s : Shared} {Q E : Value → Shared → Prop}
    (B : Below A₀ base outer h₀) (F : Fr h₀ L s.heap m) (X : (hd.heap_39 w.params).In h₀) (N : News h₀ L s.heap news) (T : Top hd.view_39 (looseW hd.view_39 []) mean mg mb h₀) (hk : cs.kind = .function)
    (hl : base.IsList l vs.toArray) (hi : IntsAre vs ns) (hlen : ns.length < 2 ^ 62)
    (C : DoesL w f sz news l vs ns args Ret) (hd : dp + sz < recursionLimit) (hu : un + 8 * sz < cLine) (ret : Ret h₀ L m s Q) :
    wpAny (model PySem.Challenge.rw_jv0022_01.row.prog w) (ktrTop dp un gd cn cs L a ccd cl outer) (call (.ref f) args) Q E s := C mean mg mb dp un gd cn cs a ccd cl outer A₀ base h₀ L m s Q E B F X N T hk hl hi hlen hd hu ret
theorem scale_lo (x : Int) : 1 ≤ 1 + x.fmod (q - 1) := by
  have := Int.fmod_nonneg_of_pos x (show (0:Int) < q - 1 by decide); omega
theorem scale_hi (x : Int) : 1 + x.fmod (q - 1) ≤ q - 1 := by
  have := Int.fmod_lt_of_pos x (show (0:Int) < q - 1 by decide); omega
theorem zb_one {m a : Int} (hm : m.natAbs ≤ 40) (h1 : 0 ≤ a) (h2 : a < 8) : (decide (m = 0) && decide (a = 0)) = true ↔ pnt m a = pO := by
  rw [pnt_zero (by omega) h1 h2, Bool.and_eq_true, decide_eq_true_eq, decide_eq_true_eq]
theorem zb_sum {m1 a1 m2 a2 : Int} (hm1 : m1.natAbs ≤ 40) (h1 : 0 ≤ a1) (hm2 : m2.natAbs ≤ 40) (h2 : 0 ≤ a2) : (decide (m1 + m2 = 0) && decide ((a1 + a2).fmod 8 = 0)) = true ↔ padd (pnt m1 a1) (pnt m2 a2) = pO := by
  rw [pnt_add h1 h2, pnt_zero (by omega) (t_8 _).1 (t_8 _).2, Bool.and_eq_true, decide_eq_true_eq, decide_eq_true_eq]
section
variable {prog : Program} {w : World} {A : Around} {E : Value → Shared → Prop} {s : Shared} {x : Int} {t u : Tok} {j : Nat} {Q : Value → Shared → Prop}
theorem fac_pos (j : Nat) : 0 < [(2:Int) ^ Int.toNat 16, 2 ^ Int.toNat 60].getD j 0 ∧ [(2:Int) ^ Int.toNat 16, 2 ^ Int.toNat 60].getD j 0 ≤ 2 ^ 60 ∨ 2 ≤ j := by
  match j with
  | 0 => exact .inl (by decide)
  | 1 => exact .inl (by decide)
  | j + 2 => exact .inr (by omega)
theorem fac_mod {c : Bool} (h : ∀ k tk u, 0 ≤ k → k < 2 ^ 60 → Q (.int k u) { s with toks := tk }) : wpAny (model prog w) A (binaryOp .Mod (.int x t) (.int ([(2:Int) ^ Int.toNat 16, 2 ^ Int.toNat 60].getD (if c = true then (1:Int) else 0).toNat 0) u)) Q E s := by
  have hj : ¬ 2 ≤ (if c = true then (1:Int) else 0).toNat := by split <;> decide
  obtain ⟨h1, h2⟩ := (fac_pos (if c = true then (1:Int) else 0).toNat).resolve_right hj
  generalize [(2:Int) ^ Int.toNat 16, 2 ^ Int.toNat 60].getD (if c = true then (1:Int) else 0).toNat 0 = d at *
  refine PyProof.Rows.mod_int' (show d ≠ 0 by omega) ?_
  have a := Int.fmod_nonneg_of_pos x h1
  have b := Int.fmod_lt_of_pos x h1
  exact h _ _ _ a (by omega)
end
theorem pow61 {k : Int} (h : k < 2 ^ 60) : k + k < 2 ^ (60 + 1) := by
  rw [show (2:Int) ^ (60 + 1) = 2 * 2 ^ 60 by decide]; omega
theorem le1000 {m : Int} (h : m.natAbs ≤ 40) : m.natAbs ≤ 1000 := by omega

theorem holds : PySem.Challenge.rw_jv0022_01.Holds := hd (by
  k_go0
  (all_goals try k_fold)
  repeat' (first
    | (k_unfold; (try dsimp only))
    | (k_end; kc_close)
    | ((with_reducible show wpAny _ _ (call (Value.ref 70) _) _ _ _); (k_dflt (refine' Does.use ?k1 ?k2 ?k3 ?k4 ?k5 ?kK (FastIH.use (c_fast _ ?h5 ?h6 60 (by decide)) ?m1 ?h1 ?h2 ?h3 (by decide)) ?kd ?ku ?_; (case k1 => k_asm); (case k2 => k_asm); (case k3 => k_asm); (case k4 => k_asm); (case k5 => k_asm); (case kK => first | exact rfl | assumption); (case m1 => k_mem); (case h1 => assumption); (case h2 => assumption); (case h3 => exact pow61 (by assumption)); (case h5 => exact le1000 (by assumption)); (case h6 => assumption); (case kd => ktr_room); (case ku => ktr_units)); intro D' x' y' z' w' t1' t2' t3' t4' c' h' tk' hS' F' N'; (try dsimp only)))
    | ((with_reducible show wpAny _ _ (call (Value.ref 56) _) _ _ _); (k_dflt (refine' Does.use ?k1 ?k2 ?k3 ?k4 ?k5 ?kK (SlowIH.use (c_slow _ 60) ?m1 ?h1 ?h2 ?h3 (by decide)) ?kd ?ku ?_; (case k1 => k_asm); (case k2 => k_asm); (case k3 => k_asm); (case k4 => k_asm); (case k5 => k_asm); (case kK => first | exact rfl | assumption); (case m1 => k_mem); (case h1 => assumption); (case h2 => assumption); (case h3 => exact pow61 (by assumption)); (case kd => ktr_room); (case ku => ktr_units)); intro D' x' y' z' w' t1' t2' t3' t4' c' h' tk' hS' F' N'; (try dsimp only)))
    | ((with_reducible show wpAny _ _ (call (Value.ref 112) _) _ _ _); (k_dflt (refine' Does.use ?k1 ?k2 ?k3 ?k4 ?k5 ?kK (c_times _ ?m1 ?h1 ?h2) ?kd ?ku ?_; (case k1 => k_asm); (case k2 => k_asm); (case k3 => k_asm); (case k4 => k_asm); (case k5 => k_asm); (case kK => first | exact rfl | assumption); (case m1 => k_mem); (case h1 => assumption); (case h2 => assumption); (case kd => ktr_room); (case ku => ktr_units)); intro D' x' y' z' t1' t2' t3' c' h' tk' hS' F' N'; (try dsimp only)))
    | ((with_reducible show wpAny _ _ (subscriptTail _ _ (Value.ref _) (Value.int _ _)) _ _ _); k_dflt (refine' item_tupleT ?t ?a ?b ?c ?d ?_; (case t => exact News.isTup (by k_asm) (by k_mem)); (case a => decide); (case b => decide); (case c => rfl); (case d => rfl); k_whole))
    | ((with_reducible show wpAny _ _ (subscriptTail _ _ (Value.ref _) (Value.int _ _)) _ _ _); k_dflt (refine' item_tupleT ?t ?a ?b ?c ?d ?_; (case t => exact News.isTup (by k_asm) (by k_mem)); (case a => decide); (case b => decide); (case c => rfl); (case d => rfl); k_whole))
    | ((with_reducible show wpAny _ _ (binaryOp Operator.Mod (Value.int _ _) (Value.int (List.getD _ _ _) _)) _ _ _); ((refine fac_mod ?_); intro k' tk' u' hk0' hk1'; (try dsimp only)))
    | ((with_reducible show wpAny _ _ (call (Value.ref 166) _) _ _ _); (k_dflt (refine' Does.use ?k1 ?k2 ?k3 ?k4 ?k5 ?kK (c_isaff _ ?m1 ?h1) ?kd ?ku ?_; (case k1 => k_asm); (case k2 => k_asm); (case k3 => k_asm); (case k4 => k_asm); (case k5 => k_asm); (case kK => first | exact rfl | assumption); (case m1 => k_mem); (case h1 => mul_fits); (case kd => ktr_room); (case ku => ktr_units)); intro h' tk' F' N'; (try dsimp only)))
    | ((with_reducible show wpAny _ _ (call (Value.ref 173) _) _ _ _); (k_dflt (refine' Does.use ?k1 ?k2 ?k3 ?k4 ?k5 ?kK (c_isback _ ?m1 ?m2 ?h1 ?h2) ?kd ?ku ?_; (case k1 => k_asm); (case k2 => k_asm); (case k3 => k_asm); (case k4 => k_asm); (case k5 => k_asm); (case kK => first | exact rfl | assumption); (case m1 => k_mem); (case m2 => k_mem); (case h1 => assumption); (case h2 => assumption); (case kd => ktr_room); (case ku => ktr_units)); intro h' tk' F' N'; (try dsimp only)))
    | ((with_reducible show wpAny _ _ (call (Value.ref 77) _) _ _ _); (k_dflt (refine' Does.use ?k1 ?k2 ?k3 ?k4 ?k5 ?kK (c_zero _ ?m1 ?h1 ?h2) ?kd ?ku ?_; (case k1 => k_asm); (case k2 => k_asm); (case k3 => k_asm); (case k4 => k_asm); (case k5 => k_asm); (case kK => first | exact rfl | assumption); (case m1 => k_mem); (case h1 => assumption); (case h2 => first | exact zb_one (by assumption) (by assumption) (by assumption) | exact zb_sum (by assumption) (by assumption) (by assumption) (by assumption)); (case kd => ktr_room); (case ku => ktr_units)); intro h' tk' F' N'; (try dsimp only)))
    | ((with_reducible show wpAny _ _ (call (Value.ref 145) _) _ _ _); (k_dflt (refine' Does.use ?k1 ?k2 ?k3 ?k4 ?k5 ?kK (c_stands _ ?m1 ?m2 ?h1 ?h2) ?kd ?ku ?_; (case k1 => k_asm); (case k2 => k_asm); (case k3 => k_asm); (case k4 => k_asm); (case k5 => k_asm); (case kK => first | exact rfl | assumption); (case m1 => k_mem); (case m2 => k_mem); (case h1 => assumption); (case h2 => assumption); (case kd => ktr_room); (case ku => ktr_units)); intro h' tk' F' N'; (try dsimp only)))
    | ((with_reducible show wpAny _ _ (call (Value.ref 42) _) _ _ _); (k_dflt (refine' Does.use ?k1 ?k2 ?k3 ?k4 ?k5 ?kK (c_dbl _ ?m1 ?h1) ?kd ?ku ?_; (case k1 => k_asm); (case k2 => k_asm); (case k3 => k_asm); (case k4 => k_asm); (case k5 => k_asm); (case kK => first | exact rfl | assumption); (case m1 => k_mem); (case h1 => assumption); (case kd => ktr_room); (case ku => ktr_units)); intro D' x' y' z' w' t1' t2' t3' t4' c' h' tk' hS' F' N'; (try dsimp only)))
    | ((with_reducible show wpAny _ _ (call (Value.ref 105) _) _ _ _); (k_dflt (refine' Does.use ?k1 ?k2 ?k3 ?k4 ?k5 ?kK (c_add3 _ ?m1 ?m2 ?h1 ?h2) ?kd ?ku ?_; (case k1 => k_asm); (case k2 => k_asm); (case k3 => k_asm); (case k4 => k_asm); (case k5 => k_asm); (case kK => first | exact rfl | assumption); (case m1 => k_mem); (case m2 => k_mem); (case h1 => assumption); (case h2 => assumption); (case kd => ktr_room); (case ku => ktr_units)); intro D' x' y' z' t1' t2' t3' c' h' tk' hS' F' N'; (try dsimp only)))
    | ((with_reducible show wpAny _ _ (call (Value.ref 49) _) _ _ _); (k_dflt (refine' Does.use ?k1 ?k2 ?k3 ?k4 ?k5 ?kK (c_add _ ?m1 ?m2 ?h1 ?h2) ?kd ?ku ?_; (case k1 => k_asm); (case k2 => k_asm); (case k3 => k_asm); (case k4 => k_asm); (case k5 => k_asm); (case kK => first | exact rfl | assumption); (case m1 => k_mem); (case m2 => k_mem); (case h1 => assumption); (case h2 => assumption); (case kd => ktr_room); (case ku => ktr_units)); intro D' x' y' z' w' t1' t2' t3' t4' c' h' tk' hS' F' N'; (try dsimp only)))
    | ((with_reducible show wpAny _ _ (call (Value.ref 133) _) _ _ _); (k_dflt (refine' Does.use ?k1 ?k2 ?k3 ?k4 ?k5 ?kK (c_ext _ ?m1 ?h1 ?h2 ?h3) ?kd ?ku ?_; (case k1 => k_asm); (case k2 => k_asm); (case k3 => k_asm); (case k4 => k_asm); (case k5 => k_asm); (case kK => first | exact rfl | assumption); (case m1 => k_mem); (case h1 => assumption); (case h2 => exact scale_lo _); (case h3 => exact scale_hi _); (case kd => ktr_room); (case ku => ktr_units)); intro D' x' y' z' w' t1' t2' t3' t4' c' h' tk' hS' F' N'; (try dsimp only)))
    | ((with_reducible show wpAny _ _ (call (Value.ref 159) _) _ _ _); (k_dflt (refine' Does.use ?k1 ?k2 ?k3 ?k4 ?k5 ?kK (c_point _ ?m1 ?h1) ?kd ?ku ?_; (case k1 => k_asm); (case k2 => k_asm); (case k3 => k_asm); (case k4 => k_asm); (case k5 => k_asm); (case kK => first | exact rfl | assumption); (case m1 => k_mem); (case h1 => assumption); (case kd => ktr_room); (case ku => ktr_units)); intro D' x' y' z' t1' t2' t3' c' h' tk' hS' F' N'; (try dsimp only)))
    | ((with_reducible show wpAny _ _ (call (Value.ref 152) _) _ _ _); (k_dflt (refine' DoesL.use ?k1 ?k2 ?k3 ?k4 ?k5 ?kK ?kl ?ki ?kt (c_counts _) ?kd ?ku ?_; (case k1 => k_asm); (case k2 => k_asm); (case k3 => k_asm); (case k4 => k_asm); (case k5 => k_asm); (case kK => first | exact rfl | assumption); (case kl => k_asm); (case ki => l_ints); (case kt => l_fit); (case kd => ktr_room); (case ku => ktr_units)); rintro D' D1' D2' m1' a1' m2' a2' t1' t2' t3' t4' c' c1' c2' h' tk' ⟨bm1', ba1', bb1'⟩ ⟨bm2', ba2', bb2'⟩ F' N'; (try dsimp only)))
    | ((with_reducible show wpAny _ _ (call (Value.ref 91) _) _ _ _); (k_dflt (refine' Does.use ?k1 ?k2 ?k3 ?k4 ?k5 ?kK (c_prime _) ?kd ?ku ?_; (case k1 => k_asm); (case k2 => k_asm); (case k3 => k_asm); (case k4 => k_asm); (case k5 => k_asm); (case kK => first | exact rfl | assumption); (case kd => ktr_room); (case ku => ktr_units)); intro t1' h' tk' F' N'; (try dsimp only)))
    | ((with_reducible show wpAny _ _ (call (Value.builtin "abs") _) _ _ _); (refine abs_any ?_; intro r' u' tk' h0'; (try dsimp only)))
    | ((with_reducible show wpAny _ _ (compareOp CmpOp.NotEq (Value.int _ _) (Value.int _ _)) _ _ _); first | (with_reducible refine ne_no (by with_reducible assumption) ?_) | (with_reducible refine ne_yes (by with_reducible assumption) ?_))
    | ((with_reducible show wpAny _ _ (compareOp CmpOp.Eq (Value.int _ _) (Value.int _ _)) _ _ _); first | (with_reducible refine eq_yes (by with_reducible assumption) ?_) | (with_reducible refine eq_no (by with_reducible assumption) ?_))
    | ((with_reducible show wpAny _ _ (eval (Expr.Constant _ _ _) _) _ _ _); dsimp only; walk1)
    | ((with_reducible show wpAny _ _ (binaryOp _ (Value.int _ _) (Value.int _ _)) _ _ _); dsimp only; walk1)
    | ((with_reducible show wpAny _ _ (eval (Expr.Name _ _) _) _ _ _); k_dflt (refine' nameQ ?nqF ?nqV ?_ ?nqK ?nqA ?nqB; (case nqF => k_asm); (case nqK => first | rfl | assumption); (case nqA => rfl); (case nqB => decide); (case nqV => rfl); k_whole))
    | (with_reducible refine store_gen ?_; intro t' k'; dsimp only; walk1)
    | walk1
    | (dsimp only; walk1)
    | (leave1; (try dsimp only))
    | fail "no step")
  (all_goals (try k_data)))

end Mine
theorem PySem.Challenge.cw_jv0022_01_holds : PySem.Challenge.rw_jv0022_01.Holds := by
  exact Mine.holds
