import PyProof.Rows.All
import Wide.All
import OpenK.AllK
import Wide.FinOn
import Lean
import PySem.Challenge.RW_iv0042_01
set_option Elab.async false
set_option maxRecDepth 100000
set_option maxHeartbeats 8000000
namespace Mine
abbrev Tri := Int × Int × Int
/-! what the project's functions reckon, as plain functions -/
def jdbl (P A : Int) (p : Tri) : Tri :=
  if p.2.1 = 0 then (0, 0, 0) else
    let ysq := p.2.1 ^ 2 % P
    let S := 4 * p.1 * ysq % P
    let M := (3 * p.1 ^ 2 + A * p.2.2 ^ 4) % P
    let nx := (M ^ 2 - 2 * S) % P
    let ny := (M * (S - nx) - 8 * ysq ^ 2) % P
    let nz := 2 * p.2.1 * p.2.2 % P
    (nx, ny, nz)
def jadd (P A : Int) (p q : Tri) : Tri :=
  if p.2.1 = 0 then q else if q.2.1 = 0 then p else
    let U1 := p.1 * q.2.2 ^ 2 % P
    let U2 := q.1 * p.2.2 ^ 2 % P
    let S1 := p.2.1 * q.2.2 ^ 3 % P
    let S2 := q.2.1 * p.2.2 ^ 3 % P
    if U1 = U2 then (if S1 = S2 then jdbl P A p else (0, 0, 1)) else
      let H2 := (U2 - U1) * (U2 - U1) % P
      let H3 := (U2 - U1) * H2 % P
      let U1H2 := U1 * H2 % P
      let nx := ((S2 - S1) ^ 2 - H3 - 2 * U1H2) % P
      let ny := ((S2 - S1) * (U1H2 - nx) - S1 * H3) % P
      let nz := (U2 - U1) * p.2.2 * q.2.2 % P
      (nx, ny, nz)
/-- n times a, 0 ≤ n -/
def jmulN (P A : Int) (a : Tri) (n : Nat) : Tri :=
  if n = 0 then (0, 0, 1) else if n = 1 then a else
    if n % 2 = 0 then jdbl P A (jmulN P A a (n / 2)) else jadd P A (jdbl P A (jmulN P A a (n / 2))) a
termination_by n
decreasing_by all_goals omega
def jmul (P N A : Int) (a : Tri) (n : Int) : Tri :=
  if a.2.1 = 0 then (0, 0, 1) else jmulN P A a (n % N).toNat
def bval (ks : List Int) : Int := ks.foldl (fun o k => o * 256 + k) 0
def egl (lm hm low high : Int) : Int :=
  if low > 1 then egl (hm - lm * (high / low)) lm (high - low * (high / low)) low else lm
termination_by low.toNat
decreasing_by
  have h1 := Int.emod_lt_of_pos high (show (0 : Int) < low by omega)
  have h2 := Int.mul_ediv_add_emod high low
  omega
/-- the inverse that the project's inv reckons -/
def pinv (a n : Int) : Int := if a = 0 then 0 else egl 1 0 (a % n) n % n
def fromJ (P : Int) (p : Tri) : Int × Int := (p.1 * pinv p.2.2 P ^ 2 % P, p.2.1 * pinv p.2.2 P ^ 3 % P)
def pmul (P N A : Int) (x y : Int) (n : Int) : Int × Int := fromJ P (jmul P N A (x, y, 1) n)
/-- what ecdsa_raw_sign reckons: z, d the octets' numbers -/
def psign (P N A Gx Gy z d k : Int) : Tri :=
  if pinv k N * (z + (pmul P N A Gx Gy k).1 * d) % N * 2 < N then
    (27 + (pmul P N A Gx Gy k).2 % 2, (pmul P N A Gx Gy k).1, pinv k N * (z + (pmul P N A Gx Gy k).1 * d) % N)
  else (27 + (1 - (pmul P N A Gx Gy k).2 % 2), (pmul P N A Gx Gy k).1, N - pinv k N * (z + (pmul P N A Gx Gy k).1 * d) % N)
/-- the y that ecdsa_raw_recover takes -/
def ybeta (P A B v r : Int) : Int :=
  let c := (r * r * r + A * r + B) % P
  let beta := c ^ ((P + 1) / 4).toNat % P
  if v % 2 = beta % 2 then P - beta else beta
def recBad (P N A B v r s : Int) : Bool :=
  decide (((r * r * r + A * r + B) % P - ybeta P A B v r * ybeta P A B v r) % P ≠ 0 ∨ r % N = 0 ∨ s % N = 0)
def precover (P N A B Gx Gy z v r s : Int) : Option (Int × Int) :=
  if ¬ (v = 27 ∨ v = 28) then none else
    if recBad P N A B v r s = true then none
    else some (fromJ P (jmul P N A (jadd P A (jmul P N A (Gx, Gy, 1) ((N - z) % N)) (jmul P N A (r, ybeta P A B v r, 1) s)) (pinv r N)))

section
variable {F : Type} [Lean.Grind.CommRing F]
theorem lin1 {a b c : F} (h : a - b = c) : a = b + c := by grind
theorem lin2 {a b c : F} (h : b = c + a) : a = b - c := by grind
theorem lin3 {a b : F} (h : a - b = 0) : a = b := by grind
/-- l is the slope of the line through the two places: of the chord, or of the tangent -/
structure Ln (a x1 y1 x2 y2 l : F) : Prop where
  c : y2 - y1 = l * (x2 - x1)
  t : l * (y1 + y2) = x1 * x1 + x1 * x2 + x2 * x2 + a
/-- and the third place of that line, turned over -/
structure Sm3 (a x1 y1 x2 y2 l x4 y4 : F) : Prop where
  c : y2 - y1 = l * (x2 - x1)
  t : l * (y1 + y2) = x1 * x1 + x1 * x2 + x2 * x2 + a
  x : x4 = l * l - x1 - x2
  y : y4 = l * (x1 - x4) - y1
structure Dom (F : Type) [Lean.Grind.CommRing F] : Prop where
  dom : ∀ a b : F, a * b = 0 → a = 0 ∨ b = 0
  two : ∀ a : F, 2 * a = 0 → a = 0

theorem sm3_comm {a x1 y1 x2 y2 l x4 y4 : F} (h : Sm3 a x1 y1 x2 y2 l x4 y4) : Sm3 a x2 y2 x1 y1 l x4 y4 := by
  obtain ⟨h1, h2, h3, h4⟩ := h
  have e2 := lin1 h1
  subst e2
  have ea := lin2 h2
  subst ea h4 h3
  clear h1 h2
  exact ⟨by grind, by grind, by grind, by grind⟩
theorem sm3_on {a b x1 y1 x2 y2 l x4 y4 : F} (h : Sm3 a x1 y1 x2 y2 l x4 y4) (hA : y1 * y1 = x1 * x1 * x1 + a * x1 + b) : y4 * y4 = x4 * x4 * x4 + a * x4 + b := by
  obtain ⟨h1, h2, h3, h4⟩ := h
  have eb := lin2 hA
  have e2 := lin1 h1
  subst e2
  have ea := lin2 h2
  subst eb ea h4 h3
  clear h1 h2 hA
  grind
theorem sm3_back {a x1 y1 x2 y2 l x4 y4 : F} (h : Sm3 a x1 y1 x2 y2 l x4 y4) : Sm3 a x4 y4 x2 (-y2) (-l) x1 y1 := by
  obtain ⟨h1, h2, h3, h4⟩ := h
  have e2 := lin1 h1
  subst e2
  have ea := lin2 h2
  subst ea h4 h3
  clear h1 h2
  exact ⟨by grind, by grind, by grind, by grind⟩
theorem slope_one {a x1 y1 x2 y2 l l' : F} (D : Dom F) (h : Ln a x1 y1 x2 y2 l) (h' : Ln a x1 y1 x2 y2 l') (hn : ¬ (x1 = x2 ∧ y1 + y2 = 0)) : l = l' := by
  obtain ⟨a1, a2⟩ := h
  obtain ⟨b1, b2⟩ := h'
  have e1 : (l - l') * (x2 - x1) = 0 := by clear a2 b2 hn; grind
  have e2 : (l - l') * (y1 + y2) = 0 := by clear a1 b1 hn; grind
  rcases D.dom _ _ e1 with h | h
  · exact lin3 h
  · rcases D.dom _ _ e2 with h' | h'
    · exact lin3 h'
    · exact absurd ⟨(lin3 h).symm, h'⟩ hn
theorem line_R {a x1 y1 x2 y2 x3 y3 l n : F} (a1 : y2 - y1 = l * (x2 - x1)) (a2 : l * (y1 + y2) = x1 * x1 + x1 * x2 + x2 * x2 + a) (b1 : y3 - y2 = n * (x3 - x2)) (b2 : n * (y2 + y3) = x2 * x2 + x2 * x3 + x3 * x3 + a) :
    2 * y2 * (l - n) = (x1 - x2) * ((x1 + x2 + x3) - l * l) + (x3 - x2) * (n * n - (x1 + x2 + x3)) := by grind
theorem dn1 {x1 x2 x3 y2 l : F} (R : 2 * y2 * (l - l) = (x1 - x2) * ((x1 + x2 + x3) - l * l) + (x3 - x2) * (l * l - (x1 + x2 + x3))) : (x1 - x3) * ((x1 + x2 + x3) - l * l) = 0 := by grind
theorem dn2 {x1 y1 x2 y2 y3 l : F} (a1 : y2 - y1 = l * (x2 - x1)) (b1 : y3 - y2 = l * (x1 - x2)) : y1 = y3 := by grind
theorem dn3 {x1 y1 x2 y2 x3 y3 l x4 : F} (a1 : y2 - y1 = l * (x2 - x1)) (b1 : y3 - y2 = l * (x3 - x2)) (a4 : y3 = l * (x1 - x4) - y1) (e4 : x4 = x3) : 2 * y2 + 2 * (l * (x3 - x2)) = 0 := by
  subst e4; grind
theorem dn4 {x1 y1 x2 y2 x3 y3 l x6 : F} (a1 : y2 - y1 = l * (x2 - x1)) (b1 : y3 - y2 = l * (x3 - x2)) (b4 : y1 = l * (x2 - x6) - y2) (e6 : x6 = x1) : 2 * y2 + 2 * (l * (x1 - x2)) = 0 := by
  subst e6; grind
theorem dn5 {x1 x2 x3 y2 l : F} (g1 : 2 * y2 + 2 * (l * (x3 - x2)) = 0) (g2 : 2 * y2 + 2 * (l * (x1 - x2)) = 0) : 2 * (l * (x1 - x3)) = 0 := by grind
/-- δ ≠ 0 -/
theorem delta_ne {a x1 y1 x2 y2 x3 y3 l n x4 y4 x6 y6 : F} (D : Dom F) (h1 : Sm3 a x1 y1 x2 y2 l x4 y4) (h2 : Sm3 a x2 y2 x3 y3 n x6 y6)
    (hAC : ¬ (x1 = x3 ∧ y1 = y3)) (hD : ¬ (x4 = x3 ∧ y4 + y3 = 0)) (hE : ¬ (x6 = x1 ∧ y6 + y1 = 0)) (hy : y2 ≠ 0)
    (c4 : x4 = x3 → y4 = y3 ∨ y4 + y3 = 0) (c6 : x6 = x1 → y6 = y1 ∨ y6 + y1 = 0) : l - n ≠ 0 := by
  intro hd
  have hln : l = n := lin3 hd
  subst hln
  obtain ⟨a1, a2, a3, a4⟩ := h1
  obtain ⟨b1, b2, b3, b4⟩ := h2
  have R := line_R a1 a2 b1 b2
  rcases D.dom _ _ (dn1 R) with h | h
  · have e := lin3 h
    subst e
    exact hAC ⟨rfl, dn2 a1 b1⟩
  · have e4 : x4 = x3 := by clear a1 a2 a4 b1 b2 b3 b4 R hAC hD hE c4 c6; grind
    have e6 : x6 = x1 := by clear a1 a2 a3 a4 b1 b2 b4 R hAC hD hE c4 c6; grind
    have f4 : y4 = y3 := (c4 e4).resolve_right fun q => hD ⟨e4, q⟩
    have f6 : y6 = y1 := (c6 e6).resolve_right fun q => hE ⟨e6, q⟩
    have g1 := dn3 a1 b1 (f4 ▸ a4) e4
    have g2 := dn4 a1 b1 (f6 ▸ b4) e6
    rcases D.dom _ _ (D.two _ (dn5 g1 g2)) with k | k
    · subst k
      exact hy (D.two _ (by clear a1 a2 a3 a4 b1 b2 b3 b4 R hAC hD hE c4 c6 g2 hd h; grind))
    · have e := lin3 k
      subst e
      exact hAC ⟨rfl, dn2 a1 b1⟩
theorem mu1 {x1 y1 x2 y2 y3 l n x4 x3 : F} (a1 : y2 - y1 = l * (x2 - x1)) (b1 : y3 - y2 = n * (x3 - x2)) (a4 : y3 = l * (x1 - x4) - y1) (e4 : x4 = x3) : 2 * y3 = - ((l - n) * (x3 - x2)) := by
  subst e4; grind
theorem mu2 {a x2 x3 y2 y3 l n : F} (b1 : y3 - y2 = n * (x3 - x2)) (b2 : n * (y2 + y3) = x2 * x2 + x2 * x3 + x3 * x3 + a) (g1 : 2 * y3 = - ((l - n) * (x3 - x2))) : 3 * (x3 * x3) + a = (x3 - x2) * (2 * x3 + x2 - l * n) := by grind
theorem mu3 {a y3 m x4 x3 y4 : F} (m2 : m * (y4 + y3) = x4 * x4 + x4 * x3 + x3 * x3 + a) (e4 : x4 = x3) (f4 : y4 = y3) : m * (2 * y3) = 3 * (x3 * x3) + a := by subst e4 f4; grind
theorem mu4 {x1 x2 x3 l n : F} (u0 : x1 + x2 + x3 = l * l) : (l - n) * ((x3 - x2) * (2 * x3 + x2 - l * n)) + (l - n) * l * (- ((l - n) * (x3 - x2))) - (x1 - x3) * (- ((l - n) * (x3 - x2))) = 0 := by
  have e : x1 = l * l - x3 - x2 := by grind
  subst e; clear u0; grind
theorem mu5 {x1 y1 x2 y2 x3 y3 l n : F} (a1 : y2 - y1 = l * (x2 - x1)) (b1 : y3 - y2 = n * (x3 - x2)) (R : 2 * y2 * (l - n) = (x1 - x2) * ((x1 + x2 + x3) - l * l) + (x3 - x2) * (n * n - (x1 + x2 + x3))) :
    (l - n) * (y3 - (l * (x1 - (l * l - x1 - x2)) - y1)) + (l - n) * l * (x3 - (l * l - x1 - x2)) - (x1 - x3) * (x3 - (l * l - x1 - x2)) = 0 := by
  have e1 := lin1 b1
  have e2 : y1 = y2 - l * (x2 - x1) := by clear b1 R e1; grind
  subst e1 e2; clear a1 b1; grind
/-- δ (μ + λ) = x1 - x3 -/
theorem mu_eq {a x1 y1 x2 y2 x3 y3 l n m x4 y4 : F} (D : Dom F) (h1 : Sm3 a x1 y1 x2 y2 l x4 y4) (b1 : y3 - y2 = n * (x3 - x2)) (b2 : n * (y2 + y3) = x2 * x2 + x2 * x3 + x3 * x3 + a)
    (m1 : y3 - y4 = m * (x3 - x4)) (m2 : m * (y4 + y3) = x4 * x4 + x4 * x3 + x3 * x3 + a)
    (hD : ¬ (x4 = x3 ∧ y4 + y3 = 0)) (hy : y3 ≠ 0) (c4 : x4 = x3 → y4 = y3 ∨ y4 + y3 = 0) : (l - n) * (m + l) = x1 - x3 := by
  obtain ⟨a1, a2, a3, a4⟩ := h1
  have R := line_R a1 a2 b1 b2
  by_cases e4 : x4 = x3
  · have f4 : y4 = y3 := (c4 e4).resolve_right fun q => hD ⟨e4, q⟩
    have u0 : x1 + x2 + x3 = l * l := by clear a1 a2 a4 b1 b2 m1 m2 R hD c4 f4; grind
    have g1 := mu1 a1 b1 (f4 ▸ a4) e4
    have g2 := mu2 b1 b2 g1
    have g3 := mu3 m2 e4 f4
    have g4 : 2 * (y3 * ((l - n) * (m + l) - (x1 - x3))) = 0 := by
      have : 2 * (y3 * ((l - n) * (m + l) - (x1 - x3))) = (l - n) * (m * (2 * y3)) + (l - n) * l * (2 * y3) - (x1 - x3) * (2 * y3) := by
        clear g1 g2 g3 u0 f4 e4 R m1 m2 hD c4 a1 a2 a3 a4 b1 b2; grind
      rw [this, g3, g2, g1]
      exact mu4 u0
    rcases D.dom _ _ (D.two _ g4) with k | k
    · exact absurd k hy
    · exact lin3 k
  · have g : (x3 - x4) * ((l - n) * (m + l) - (x1 - x3)) = 0 := by
      have e : (x3 - x4) * ((l - n) * (m + l) - (x1 - x3)) = (l - n) * (m * (x3 - x4)) + (l - n) * l * (x3 - x4) - (x1 - x3) * (x3 - x4) := by
        clear R m1 m2 hD c4 a1 a2 a3 a4 b1 b2 e4; grind
      rw [e, ← m1, a4, a3]
      exact mu5 a1 b1 R
    rcases D.dom _ _ g with k | k
    · exact absurd (lin3 k).symm e4
    · exact lin3 k
theorem as1 {x1 x2 x3 l n m r x4 x5 x6 x7 : F} (k1 : (l - n) * (m + l) = x1 - x3) (k3 : m + l = r + n) (a3 : x4 = l * l - x1 - x2) (b3 : x6 = n * n - x2 - x3) (c3 : x5 = m * m - x4 - x3) (d3 : x7 = r * r - x1 - x6) : x5 = x7 := by
  have e : r = m + l - n := by clear k1 a3 b3 c3 d3; grind
  subst c3 d3 a3 b3 e
  clear k3; grind
theorem as2 {x1 y1 x2 y2 x3 y3 l n m r x4 x5 : F} (k1 : (l - n) * (m + l) = x1 - x3) (k3 : m + l = r + n) (a1 : y2 - y1 = l * (x2 - x1)) (b1 : y3 - y2 = n * (x3 - x2)) (a3 : x4 = l * l - x1 - x2) (c3 : x5 = m * m - x4 - x3) :
    m * (x3 - x5) - y3 = r * (x1 - x5) - y1 := by
  have e : r = m + l - n := by clear k1 a3 c3; grind
  have e1 := lin1 b1
  have e2 : y1 = y2 - l * (x2 - x1) := by clear b1 e1 k1 k3 e c3; grind
  have e4 : x1 = (l - n) * (m + l) + x3 := by clear e e1 e2 k3 a1 b1 a3 c3; grind
  subst c3 a3 e e1 e2
  clear a1 b1 k3
  subst e4
  clear k1
  grind
/-- associativity where all is finite -/
theorem assoc_fin {a x1 y1 x2 y2 x3 y3 l n m r x4 y4 x5 y5 x6 y6 x7 y7 : F} (D : Dom F) (h1 : Sm3 a x1 y1 x2 y2 l x4 y4) (h2 : Sm3 a x2 y2 x3 y3 n x6 y6)
    (h3 : Sm3 a x4 y4 x3 y3 m x5 y5) (h4 : Sm3 a x1 y1 x6 y6 r x7 y7)
    (hAC : ¬ (x1 = x3 ∧ y1 = y3)) (hD : ¬ (x4 = x3 ∧ y4 + y3 = 0)) (hE : ¬ (x6 = x1 ∧ y6 + y1 = 0)) (hy1 : y1 ≠ 0) (hy2 : y2 ≠ 0) (hy3 : y3 ≠ 0)
    (c4 : x4 = x3 → y4 = y3 ∨ y4 + y3 = 0) (c6 : x6 = x1 → y6 = y1 ∨ y6 + y1 = 0) : x5 = x7 ∧ y5 = y7 := by
  have hd := delta_ne D h1 h2 hAC hD hE hy2 c4 c6
  have k1 := mu_eq D h1 h2.c h2.t h3.c h3.t hD hy3 c4
  have h2' := sm3_comm h2
  have h1' := sm3_comm h1
  have h4' := sm3_comm h4
  have k2 := mu_eq D h2' h1'.c h1'.t h4'.c h4'.t hE hy1 c6
  have k3 : m + l = r + n := by
    have q : (l - n) * ((m + l) - (r + n)) = 0 := by clear h1 h2 h3 h4 h2' h1' h4' hAC hD hE c4 c6; grind
    rcases D.dom _ _ q with k | k
    · exact absurd k hd
    · exact lin3 k
  have hx := as1 k1 k3 h1.x h2.x h3.x h4.x
  refine ⟨hx, ?_⟩
  rw [(sm3_comm h3).y, h4.y, ← hx]
  exact as2 k1 k3 h1.c h2.c h1.x h3.x
end

section
variable {F : Type} [Lean.Grind.CommRing F] [DecidableEq F]
abbrev Pt (F : Type) := Option (F × F)
def On (a b : F) : Pt F → Prop
  | none => True
  | some (x, y) => y * y = x * x * x + a * x + b
def pneg : Pt F → Pt F
  | none => none
  | some (x, y) => some (x, -y)
/-- the sum of two places: chord and tangent -/
def padd (inv : F → F) (a : F) : Pt F → Pt F → Pt F
  | none, q => q
  | some p, none => some p
  | some (x1, y1), some (x2, y2) =>
    if x1 = x2 ∧ y1 + y2 = 0 then none else
      let l := if x1 = x2 then (3 * (x1 * x1) + a) * inv (2 * y1) else (y2 - y1) * inv (x2 - x1)
      some (l * l - x1 - x2, l * (x1 - (l * l - x1 - x2)) - y1)
/-- a curve without a place of order two, over a field -/
structure Cv (inv : F → F) (a b : F) : Prop where
  D : Dom F
  inv : ∀ x : F, x ≠ 0 → x * inv x = 1
  root : ∀ x : F, x * x * x + a * x + b ≠ 0
variable {inv : F → F} {a b : F}
theorem on_yne (C : Cv inv a b) {x y : F} (h : On a b (some (x, y))) : y ≠ 0 := by
  intro e
  subst e
  refine C.root x ?_
  have h' : (0 : F) * 0 = x * x * x + a * x + b := h
  clear h
  grind
theorem on_same (C : Cv inv a b) {x1 y1 x2 y2 : F} (h1 : On a b (some (x1, y1))) (h2 : On a b (some (x2, y2))) (e : x1 = x2) : y1 = y2 ∨ y1 + y2 = 0 := by
  subst e
  have h1' : y1 * y1 = x1 * x1 * x1 + a * x1 + b := h1
  have h2' : y2 * y2 = x1 * x1 * x1 + a * x1 + b := h2
  have q : (y1 - y2) * (y1 + y2) = 0 := by clear h1 h2; grind
  rcases C.D.dom _ _ q with k | k
  · exact .inl (lin3 k)
  · exact .inr k
theorem padd_fin (C : Cv inv a b) {x1 y1 x2 y2 : F} (h1 : On a b (some (x1, y1))) (h2 : On a b (some (x2, y2))) (hn : ¬ (x1 = x2 ∧ y1 + y2 = 0)) :
    ∃ l x4 y4, padd inv a (some (x1, y1)) (some (x2, y2)) = some (x4, y4) ∧ Sm3 a x1 y1 x2 y2 l x4 y4 := by
  dsimp only [padd]
  rw [if_neg hn]
  by_cases e : x1 = x2
  · subst e
    rcases on_same C h1 h2 rfl with k | k
    · subst k
      have hy := on_yne C h1
      have h2y : (2 * y1 : F) ≠ 0 := fun q => hy (C.D.two _ q)
      have hi := C.inv _ h2y
      refine ⟨_, _, _, rfl, ?_, ?_, rfl, rfl⟩
      · clear hi h2y hy hn h1 h2; grind
      · rw [if_pos rfl]
        have e9 : (3 * (x1 * x1) + a) * inv (2 * y1) * (y1 + y1) = (3 * (x1 * x1) + a) * ((2 * y1) * inv (2 * y1)) := by clear hi h2y hy hn h1 h2; grind
        rw [e9, hi]
        clear e9 hi h2y hy hn h1 h2; grind
    · exact absurd ⟨rfl, k⟩ hn
  · have hx : x2 - x1 ≠ 0 := fun q => e (lin3 q).symm
    have hi := C.inv _ hx
    refine ⟨_, _, _, rfl, ?_, ?_, rfl, rfl⟩
    · rw [if_neg e]
      have e9 : (y2 - y1) * inv (x2 - x1) * (x2 - x1) = (y2 - y1) * ((x2 - x1) * inv (x2 - x1)) := by clear hi hx hn h1 h2; grind
      rw [e9, hi]
      clear e9 hi hx hn h1 h2; grind
    · rw [if_neg e]
      have h1' : y1 * y1 = x1 * x1 * x1 + a * x1 + b := h1
      have h2' : y2 * y2 = x2 * x2 * x2 + a * x2 + b := h2
      have q : (x2 - x1) * ((y2 - y1) * inv (x2 - x1) * (y1 + y2) - (x1 * x1 + x1 * x2 + x2 * x2 + a)) = 0 := by
        have e9 : (x2 - x1) * ((y2 - y1) * inv (x2 - x1) * (y1 + y2) - (x1 * x1 + x1 * x2 + x2 * x2 + a)) = ((x2 - x1) * inv (x2 - x1)) * ((y2 - y1) * (y1 + y2)) - (x2 - x1) * (x1 * x1 + x1 * x2 + x2 * x2 + a) := by clear hi hx hn h1 h2 h1' h2'; grind
        rw [e9, hi]
        clear e9 hi hx hn h1 h2; grind
      rcases C.D.dom _ _ q with k | k
      · exact absurd k hx
      · exact lin3 k
theorem padd_sm3 (C : Cv inv a b) {x1 y1 x2 y2 l x4 y4 : F} (h1 : On a b (some (x1, y1))) (h2 : On a b (some (x2, y2))) (hn : ¬ (x1 = x2 ∧ y1 + y2 = 0)) (h : Sm3 a x1 y1 x2 y2 l x4 y4) :
    padd inv a (some (x1, y1)) (some (x2, y2)) = some (x4, y4) := by
  obtain ⟨l', x', y', e, h'⟩ := padd_fin C h1 h2 hn
  have el := slope_one C.D ⟨h.c, h.t⟩ ⟨h'.c, h'.t⟩ hn
  subst el
  rw [e, h.y, h'.y, h.x, h'.x]
theorem padd_inf {x1 y1 x2 y2 : F} (h : x1 = x2 ∧ y1 + y2 = 0) : padd inv a (some (x1, y1)) (some (x2, y2)) = none := by
  dsimp only [padd]; rw [if_pos h]
theorem padd_none_l (P : Pt F) : padd inv a none P = P := rfl
theorem padd_none_r (P : Pt F) : padd inv a P none = P := by cases P <;> rfl
theorem padd_on (C : Cv inv a b) {P Q : Pt F} (hP : On a b P) (hQ : On a b Q) : On a b (padd inv a P Q) := by
  match P, Q, hP, hQ with
  | none, Q, _, hQ => exact hQ
  | some p, none, hP, _ => exact hP
  | some (x1, y1), some (x2, y2), hP, hQ =>
    by_cases hn : x1 = x2 ∧ y1 + y2 = 0
    · rw [padd_inf hn]; trivial
    · obtain ⟨l, x4, y4, e, h⟩ := padd_fin C hP hQ hn
      rw [e]
      exact sm3_on h hP
theorem pneg_on {P : Pt F} (hP : On a b P) : On a b (pneg P) := by
  match P, hP with
  | none, _ => trivial
  | some (x, y), hP =>
    have h : y * y = x * x * x + a * x + b := hP
    show (-y) * (-y) = _
    rw [← h]; clear h hP; grind
theorem pneg_pneg (P : Pt F) : pneg (pneg P) = P := by
  match P with
  | none => rfl
  | some (x, y) =>
    have : - -y = y := by grind
    show some (x, - -y) = _
    rw [this]
theorem padd_comm (C : Cv inv a b) {P Q : Pt F} (hP : On a b P) (hQ : On a b Q) : padd inv a P Q = padd inv a Q P := by
  match P, Q, hP, hQ with
  | none, Q, _, _ => rw [padd_none_l, padd_none_r]
  | some p, none, _, _ => rw [padd_none_l, padd_none_r]
  | some (x1, y1), some (x2, y2), hP, hQ =>
    by_cases hn : x1 = x2 ∧ y1 + y2 = 0
    · rw [padd_inf hn, padd_inf ⟨hn.1.symm, by have := hn.2; clear hn hP hQ; grind⟩]
    · obtain ⟨l, x4, y4, e, h⟩ := padd_fin C hP hQ hn
      rw [e]
      exact (padd_sm3 C hQ hP (fun k => hn ⟨k.1.symm, by have := k.2; clear k hn hP hQ e h; grind⟩) (sm3_comm h)).symm
theorem padd_neg (P : Pt F) : padd inv a P (pneg P) = none := by
  match P with
  | none => rfl
  | some (x, y) => exact padd_inf ⟨rfl, by grind⟩
theorem pneg_add (C : Cv inv a b) {P Q : Pt F} (hP : On a b P) (hQ : On a b Q) : padd inv a (pneg P) (pneg Q) = pneg (padd inv a P Q) := by
  match P, Q, hP, hQ with
  | none, Q, _, _ => rfl
  | some p, none, _, _ => show padd inv a (pneg (some p)) none = _; rw [padd_none_r, padd_none_r]
  | some (x1, y1), some (x2, y2), hP, hQ =>
    by_cases hn : x1 = x2 ∧ y1 + y2 = 0
    · rw [padd_inf hn]
      exact padd_inf ⟨hn.1, by have := hn.2; clear hn hP hQ; grind⟩
    · obtain ⟨l, x4, y4, e, h⟩ := padd_fin C hP hQ hn
      rw [e]
      refine padd_sm3 C (l := -l) (pneg_on hP) (pneg_on hQ) (fun k => hn ⟨k.1, by have := k.2; clear k hn hP hQ e h; grind⟩) ?_
      obtain ⟨g1, g2, g3, g4⟩ := h
      clear e hP hQ hn
      exact ⟨by clear g2 g3 g4; grind, by clear g1 g3 g4; grind, by clear g1 g2 g4; grind, by clear g1 g2 g3; grind⟩
theorem padd_cancel (C : Cv inv a b) {P Q : Pt F} (hP : On a b P) (hQ : On a b Q) : padd inv a (padd inv a P Q) (pneg Q) = P := by
  match P, Q, hP, hQ with
  | none, Q, _, _ => exact padd_neg Q
  | some p, none, _, _ => rfl
  | some (x1, y1), some (x2, y2), hP, hQ =>
    by_cases hn : x1 = x2 ∧ y1 + y2 = 0
    · rw [padd_inf hn, padd_none_l]
      show some (x2, -y2) = _
      rw [hn.1, show y1 = -y2 from by have := hn.2; clear hn hP hQ; grind]
    · obtain ⟨l, x4, y4, e, h⟩ := padd_fin C hP hQ hn
      have h4 : On a b (some (x4, y4)) := sm3_on h hP
      rw [e]
      refine padd_sm3 C h4 (pneg_on hQ) (fun k => ?_) (sm3_back h)
      refine on_yne C hQ (C.D.two _ ?_)
      obtain ⟨k1, k2⟩ := k
      have g1 := h.c
      have g4 := h.y
      subst k1
      clear h hP hQ hn e h4
      grind
theorem padd_cancel' (C : Cv inv a b) {P Q : Pt F} (hP : On a b P) (hQ : On a b Q) : padd inv a (pneg Q) (padd inv a Q P) = P := by
  rw [padd_comm C (pneg_on hQ) (padd_on C hQ hP), padd_comm C hQ hP]
  exact padd_cancel C hP hQ
theorem padd_assoc (C : Cv inv a b) {P Q R : Pt F} (hP : On a b P) (hQ : On a b Q) (hR : On a b R) : padd inv a (padd inv a P Q) R = padd inv a P (padd inv a Q R) := by
  match P, Q, R, hP, hQ, hR with
  | none, Q, R, _, _, _ => rfl
  | some p, none, R, _, _, _ => rfl
  | some p, some q, none, _, _, _ => rw [padd_none_r, padd_none_r]
  | some (x1, y1), some (x2, y2), some (x3, y3), hP, hQ, hR =>
    by_cases hAB : x1 = x2 ∧ y1 + y2 = 0
    · have e : some (x1, y1) = pneg (some (x2, y2)) := by
        show _ = some (x2, -y2)
        rw [hAB.1, show y1 = -y2 from by have := hAB.2; clear hAB hP hQ hR; grind]
      rw [padd_inf hAB, padd_none_l, e]
      exact (padd_cancel' C hR hQ).symm
    by_cases hBC : x2 = x3 ∧ y2 + y3 = 0
    · have e : some (x3, y3) = pneg (some (x2, y2)) := by
        show _ = some (x2, -y2)
        rw [hBC.1, show y3 = -y2 from by have := hBC.2; clear hBC hAB hP hQ hR; grind]
      rw [padd_inf hBC, padd_none_r, e]
      exact padd_cancel C hP hQ
    obtain ⟨l, x4, y4, eD, h1⟩ := padd_fin C hP hQ hAB
    obtain ⟨n, x6, y6, eE, h2⟩ := padd_fin C hQ hR hBC
    have hD : On a b (some (x4, y4)) := sm3_on h1 hP
    have hE : On a b (some (x6, y6)) := sm3_on h2 hQ
    by_cases kD : x4 = x3 ∧ y4 + y3 = 0
    · have e : some (x3, y3) = pneg (some (x4, y4)) := by
        show _ = some (x4, -y4)
        rw [kD.1, show y3 = -y4 from by have := kD.2; clear kD h1 h2 hD hE eD eE hAB hBC hP hQ hR; grind]
      have e2 : padd inv a (some (x2, y2)) (some (x3, y3)) = pneg (some (x1, y1)) := by
        have q := padd_cancel C hP hQ
        rw [eD] at q
        rw [← q, ← pneg_add C hD (pneg_on hQ), pneg_pneg, e]
        exact padd_comm C hQ (pneg_on hD)
      rw [eD, padd_inf kD, e2, padd_neg]
    by_cases kE : x6 = x1 ∧ y6 + y1 = 0
    · have e : some (x1, y1) = pneg (some (x6, y6)) := by
        show _ = some (x6, -y6)
        rw [kE.1, show y1 = -y6 from by have := kE.2; clear kE kD h1 h2 hD hE eD eE hAB hBC hP hQ hR; grind]
      have e2 : padd inv a (some (x1, y1)) (some (x2, y2)) = pneg (some (x3, y3)) := by
        have q := padd_cancel C hR hQ
        rw [padd_comm C hR hQ, eE] at q
        rw [← q, ← pneg_add C hE (pneg_on hQ), pneg_pneg, e]
      rw [eE, e2, padd_comm C hP hE, padd_inf kE, padd_comm C (pneg_on hR) hR, padd_neg]
    by_cases hAC : x1 = x3 ∧ y1 = y3
    · obtain ⟨rfl, rfl⟩ := hAC
      rw [padd_comm C hQ hR]
      exact padd_comm C (padd_on C hP hQ) hP
    have kE' : ¬ (x1 = x6 ∧ y1 + y6 = 0) := fun k => kE ⟨k.1.symm, by have := k.2; clear k kE kD h1 h2 hD hE eD eE hAB hBC hP hQ hR hAC; grind⟩
    obtain ⟨m, x5, y5, e5, h3⟩ := padd_fin C hD hR kD
    obtain ⟨r, x7, y7, e7, h4⟩ := padd_fin C hP hE kE'
    obtain ⟨q1, q2⟩ := assoc_fin C.D h1 h2 h3 h4 hAC kD kE (on_yne C hP) (on_yne C hQ) (on_yne C hR) (on_same C hD hR) (on_same C hE hP)
    rw [eD, eE, e5, e7, q1, q2]
end

theorem perm_of_nodup_subset {α : Type} [DecidableEq α] : ∀ {l1 l2 : List α}, l1.Nodup → (∀ x ∈ l1, x ∈ l2) → l2.length ≤ l1.length → l1.Perm l2
  | [], l2, _, _, h => by
    have : l2 = [] := List.eq_nil_of_length_eq_zero (by simpa using h)
    rw [this]
  | x :: t, l2, hn, hs, h => by
    have hx : x ∈ l2 := hs x (List.mem_cons_self)
    have h1 := List.perm_cons_erase hx
    have hn' := List.nodup_cons.mp hn
    have h2 : t.Perm (l2.erase x) := by
      refine perm_of_nodup_subset hn'.2 (fun y hy => ?_) ?_
      · have hyx : y ≠ x := fun e => hn'.1 (e ▸ hy)
        exact (List.mem_erase_of_ne hyx).mpr (hs y (List.mem_cons_of_mem _ hy))
      · rw [List.length_erase_of_mem hx]
        simp at h
        omega
    exact (h2.cons x).trans h1.symm
/-- a prime -/
def Prm (p : Nat) : Prop := 1 < p ∧ ∀ d, d ∣ p → d = 1 ∨ d = p
theorem prm_dvd_mul {p a b : Nat} (hp : Prm p) (h : p ∣ a * b) : p ∣ a ∨ p ∣ b := by
  by_cases ha : p ∣ a
  · exact .inl ha
  · right
    have hg : Nat.gcd p a = 1 := by
      rcases hp.2 _ (Nat.gcd_dvd_left p a) with e | e
      · exact e
      · exact absurd (e ▸ Nat.gcd_dvd_right p a) ha
    exact Nat.Coprime.dvd_of_dvd_mul_left (k := p) (m := a) (n := b) hg h
section
variable {p : Nat} [NeZero p]
theorem fin_zero_iff (x : Fin p) : x = 0 ↔ p ∣ x.val := by
  have hx := x.isLt
  constructor
  · intro e; subst e; simp
  · intro h
    apply Fin.ext
    rw [Fin.val_zero]
    exact Nat.eq_zero_of_dvd_of_lt h hx
theorem fin_dom (hp : Prm p) (a b : Fin p) (h : a * b = 0) : a = 0 ∨ b = 0 := by
  rw [fin_zero_iff, Fin.val_mul] at h
  have h' : p ∣ a.val * b.val := by
    have := (Nat.dvd_mod_iff (Nat.dvd_refl p)).mp h
    exact this
  rcases prm_dvd_mul hp h' with k | k
  · exact .inl ((fin_zero_iff a).mpr k)
  · exact .inr ((fin_zero_iff b).mpr k)
end
def lprod {p : Nat} [NeZero p] (l : List (Fin p)) : Fin p := l.foldr (fun x y => x * y) 1
section
variable {p : Nat} [NeZero p]
theorem lprod_perm {l l' : List (Fin p)} (h : l.Perm l') : lprod l = lprod l' := by
  induction h with
  | nil => rfl
  | cons x _ ih => show x * _ = x * _; exact congrArg _ ih
  | swap x y l => show y * (x * lprod l) = x * (y * lprod l); grind
  | trans _ _ i1 i2 => exact i1.trans i2
theorem lprod_map (a : Fin p) : ∀ l : List (Fin p), lprod (l.map (fun x => a * x)) = a ^ l.length * lprod l
  | [] => by show (1 : Fin p) = a ^ 0 * 1; grind
  | x :: l => by
    show a * x * lprod (l.map _) = a ^ (l.length + 1) * (x * lprod l)
    rw [lprod_map a l]
    grind
theorem lprod_ne (hp : Prm p) : ∀ l : List (Fin p), (∀ x ∈ l, x ≠ 0) → lprod l ≠ 0
  | [], _ => by
    show (1 : Fin p) ≠ 0
    intro e
    rw [fin_zero_iff] at e
    have h1 : (1 : Fin p).val = 1 % p := rfl
    rw [h1, Nat.mod_eq_of_lt hp.1] at e
    have := Nat.le_of_dvd (by decide) e
    have := hp.1
    omega
  | x :: l, h => by
    intro e
    rcases fin_dom hp x (lprod l) e with k | k
    · exact h x List.mem_cons_self k
    · exact lprod_ne hp l (fun y hy => h y (List.mem_cons_of_mem _ hy)) k
theorem nodup_map_inj {α β : Type} {f : α → β} (hf : ∀ x y, f x = f y → x = y) : ∀ {l : List α}, l.Nodup → (l.map f).Nodup
  | [], _ => List.nodup_nil
  | x :: l, h => by
    have h' := List.nodup_cons.mp h
    rw [List.map_cons, List.nodup_cons]
    refine ⟨fun hm => ?_, nodup_map_inj hf h'.2⟩
    obtain ⟨y, hy, e⟩ := List.mem_map.mp hm
    exact h'.1 (hf y x e ▸ hy)
theorem fin_fermat (hp : Prm p) (a : Fin p) (ha : a ≠ 0) : a ^ (p - 1) = 1 := by
  obtain ⟨n, hn⟩ : ∃ n, p = n + 1 := ⟨p - 1, by have := hp.1; omega⟩
  subst hn
  have hl : ∀ x ∈ (List.finRange n).map Fin.succ, x ≠ (0 : Fin (n + 1)) := by
    intro x hx
    obtain ⟨y, _, e⟩ := List.mem_map.mp hx
    rw [← e]
    exact Fin.succ_ne_zero y
  have hnd : ((List.finRange n).map Fin.succ).Nodup := nodup_map_inj (fun x y h => Fin.succ_inj.mp h) (List.nodup_finRange n)
  have hall : ∀ x : Fin (n + 1), x ≠ 0 → x ∈ (List.finRange n).map Fin.succ := by
    intro x hx
    obtain ⟨y, e⟩ : ∃ y : Fin n, y.succ = x := ⟨x.pred hx, Fin.succ_pred x hx⟩
    rw [← e]
    exact List.mem_map_of_mem (List.mem_finRange y)
  have hinj : ∀ x y : Fin (n + 1), a * x = a * y → x = y := by
    intro x y e
    have : a * (x - y) = 0 := by grind
    rcases fin_dom hp _ _ this with k | k
    · exact absurd k ha
    · grind
  have hperm : (((List.finRange n).map Fin.succ).map (fun x => a * x)).Perm ((List.finRange n).map Fin.succ) := by
    refine perm_of_nodup_subset (nodup_map_inj hinj hnd) (fun x hx => ?_) (by simp)
    obtain ⟨y, hy, e⟩ := List.mem_map.mp hx
    rw [← e]
    refine hall _ fun q => ?_
    rcases fin_dom hp _ _ q with k | k
    · exact ha k
    · exact hl y hy k
  have h1 := lprod_perm hperm
  rw [lprod_map] at h1
  have hne := lprod_ne hp _ hl
  have h2 : ((a ^ n - 1) : Fin (n + 1)) * lprod ((List.finRange n).map Fin.succ) = 0 := by
    simp only [List.length_map, List.length_finRange] at h1
    clear hperm hinj hall hnd hl hne
    grind
  rcases fin_dom hp _ _ h2 with k | k
  · show a ^ n = 1
    clear h1 h2 hperm
    grind
  · exact absurd k hne
/-- the inverse by Fermat -/
def finv (x : Fin p) : Fin p := x ^ (p - 2)
theorem fin_inv (hp : Prm p) (x : Fin p) (hx : x ≠ 0) : x * finv x = 1 := by
  have h := fin_fermat hp x hx
  unfold finv
  have e : p - 1 = (p - 2) + 1 := by have := hp.1; omega
  rw [e] at h
  grind
end

section
variable {p : Nat} [NeZero p]
/-- an int's rest -/
def fc (p : Nat) [NeZero p] (x : Int) : Fin p := Fin.ofNat p (x % (p : Int)).toNat
theorem npos : (0 : Int) < (p : Int) := by have := Nat.pos_of_ne_zero (NeZero.ne p); omega
theorem fc_val (x : Int) : ((fc p x).val : Int) = x % (p : Int) := by
  have h0 := Int.emod_nonneg x (show (p : Int) ≠ 0 by have := npos (p := p); omega)
  have h1 := Int.emod_lt_of_pos x (npos (p := p))
  show (((x % (p : Int)).toNat % p : Nat) : Int) = _
  rw [Nat.mod_eq_of_lt (by omega)]
  exact Int.toNat_of_nonneg h0
theorem fc_eq {x y : Int} : fc p x = fc p y ↔ x % (p : Int) = y % (p : Int) := by
  rw [← fc_val (p := p) x, ← fc_val (p := p) y]
  constructor
  · intro h; rw [h]
  · intro h
    exact Fin.ext (by omega)
theorem fc_mod (x : Int) : fc p (x % (p : Int)) = fc p x := fc_eq.mpr (Int.emod_emod_of_dvd _ (Int.dvd_refl _))
theorem fc_add (x y : Int) : fc p (x + y) = fc p x + fc p y := by
  apply Fin.ext
  have h : (((fc p x + fc p y : Fin p).val : Nat) : Int) = (x + y) % (p : Int) := by
    rw [Fin.val_add, Int.natCast_emod, Int.natCast_add, fc_val, fc_val, ← Int.add_emod]
  have h' := fc_val (p := p) (x + y)
  omega
theorem fc_mul (x y : Int) : fc p (x * y) = fc p x * fc p y := by
  apply Fin.ext
  have h : (((fc p x * fc p y : Fin p).val : Nat) : Int) = (x * y) % (p : Int) := by
    rw [Fin.val_mul, Int.natCast_emod, Int.natCast_mul, fc_val, fc_val, ← Int.mul_emod]
  have h' := fc_val (p := p) (x * y)
  omega
theorem fc_zero : fc p 0 = 0 := by
  apply Fin.ext
  have h := fc_val (p := p) 0
  rw [Int.zero_emod] at h
  rw [Fin.val_zero]
  omega
theorem fc_neg (x : Int) : fc p (-x) = - fc p x := by
  have h : fc p (-x) + fc p x = 0 := by rw [← fc_add, Int.add_left_neg, fc_zero]
  grind
theorem fc_sub (x y : Int) : fc p (x - y) = fc p x - fc p y := by
  rw [Int.sub_eq_add_neg, fc_add, fc_neg]; grind
theorem fc_one : fc p 1 = 1 := by
  apply Fin.ext
  have h := fc_val (p := p) 1
  have h2 : (1 : Fin p).val = 1 % p := rfl
  have h3 : ((1 % p : Nat) : Int) = (1 : Int) % (p : Int) := Int.natCast_emod 1 p
  rw [h2]
  omega
theorem fc_pow (x : Int) : ∀ k : Nat, fc p (x ^ k) = fc p x ^ k
  | 0 => by rw [Int.pow_zero, fc_one]; grind
  | k + 1 => by rw [Int.pow_succ, fc_mul, fc_pow x k]; grind
theorem fc_two : fc p 2 = 2 := by
  have h : fc p (1 + 1) = 1 + 1 := by rw [fc_add, fc_one]
  have e : (1 + 1 : Int) = 2 := rfl
  rw [e] at h
  rw [h]; grind
theorem fc_three : fc p 3 = 3 := by
  have h : fc p (2 + 1) = 2 + 1 := by rw [fc_add, fc_one, fc_two]
  have e : (2 + 1 : Int) = 3 := rfl
  rw [e] at h
  rw [h]; grind
theorem fc_four : fc p 4 = 4 := by
  have h : fc p (2 + 2) = 2 + 2 := by rw [fc_add, fc_two]
  have e : (2 + 2 : Int) = 4 := rfl
  rw [e] at h
  rw [h]; grind
theorem fc_eight : fc p 8 = 8 := by
  have h : fc p (4 + 4) = 4 + 4 := by rw [fc_add, fc_four]
  have e : (4 + 4 : Int) = 8 := rfl
  rw [e] at h
  rw [h]; grind
theorem fc_zero_iff {x : Int} (h0 : 0 ≤ x) (h1 : x < (p : Int)) : fc p x = 0 ↔ x = 0 := by
  rw [← fc_zero (p := p), fc_eq, Int.zero_emod, Int.emod_eq_of_lt h0 h1]
end

section
variable {p : Nat} [NeZero p] {a b : Fin p}
abbrev Red (p : Nat) (x : Int) : Prop := 0 ≤ x ∧ x < (p : Int)
/-- the three ints stand for the place: x Z², y Z³, Z -/
def Rep (p : Nat) [NeZero p] (T : Tri) : Pt (Fin p) → Prop
  | none => T.1 = 0 ∧ T.2.1 = 0
  | some (x, y) => Red p T.2.1 ∧ fc p T.2.2 ≠ 0 ∧ fc p T.1 = x * (fc p T.2.2 * fc p T.2.2) ∧ fc p T.2.1 = y * (fc p T.2.2 * fc p T.2.2 * fc p T.2.2)
theorem rep_y0 {T : Tri} {P : Pt (Fin p)} (hp : Prm p) (hP : On a b P) (C : Cv finv a b) (h : Rep p T P) : T.2.1 = 0 ↔ P = none := by
  match P, h with
  | none, h => exact ⟨fun _ => rfl, fun _ => h.2⟩
  | some (x, y), h =>
    refine ⟨fun e => ?_, fun e => nomatch e⟩
    obtain ⟨_, hz, _, hy⟩ := h
    rw [e, fc_zero] at hy
    rcases fin_dom hp _ _ hy.symm with k | k
    · exact absurd k (on_yne C hP)
    · rcases fin_dom hp _ _ k with k | k
      · rcases fin_dom hp _ _ k with k | k
        · exact absurd k hz
        · exact absurd k hz
      · exact absurd k hz
theorem red_mod (x : Int) : Red p (x % (p : Int)) := ⟨Int.emod_nonneg x (by have := npos (p := p); omega), Int.emod_lt_of_pos x npos⟩

theorem dbl1 {F : Type} [Lean.Grind.CommRing F] {a X Y Z x y l : F} (hx : X = x * (Z * Z)) (hy : Y = y * (Z * Z * Z)) (hl : l * (2 * y) = 3 * (x * x) + a) :
    (3 * (X * X) + a * (Z * Z * Z * Z)) * (3 * (X * X) + a * (Z * Z * Z * Z)) - 2 * (4 * X * (Y * Y)) = (l * l - x - x) * ((2 * Y * Z) * (2 * Y * Z)) := by
  have e := lin2 hl
  have ea : a = l * (2 * y) - 3 * (x * x) := by clear hx hy e; grind
  subst ea hx hy
  clear hl e
  grind
theorem dbl2 {F : Type} [Lean.Grind.CommRing F] {a X Y Z x y l nx : F} (hx : X = x * (Z * Z)) (hy : Y = y * (Z * Z * Z)) (hl : l * (2 * y) = 3 * (x * x) + a) (hn : nx = (l * l - x - x) * ((2 * Y * Z) * (2 * Y * Z))) :
    (3 * (X * X) + a * (Z * Z * Z * Z)) * (4 * X * (Y * Y) - nx) - 8 * ((Y * Y) * (Y * Y)) = (l * (x - (l * l - x - x)) - y) * ((2 * Y * Z) * (2 * Y * Z) * (2 * Y * Z)) := by
  have ea : a = l * (2 * y) - 3 * (x * x) := by clear hx hy hn; grind
  subst hn ea hx hy
  clear hl
  grind
theorem add1 {F : Type} [Lean.Grind.CommRing F] {X1 Y1 Z1 X2 Y2 Z2 x1 y1 x2 y2 l : F} (hx1 : X1 = x1 * (Z1 * Z1)) (hy1 : Y1 = y1 * (Z1 * Z1 * Z1)) (hx2 : X2 = x2 * (Z2 * Z2)) (hy2 : Y2 = y2 * (Z2 * Z2 * Z2)) (hl : y2 - y1 = l * (x2 - x1)) {H : F} (hH : H = X2 * (Z1 * Z1) - X1 * (Z2 * Z2)) :
    (Y2 * (Z1 * Z1 * Z1) - Y1 * (Z2 * Z2 * Z2)) * (Y2 * (Z1 * Z1 * Z1) - Y1 * (Z2 * Z2 * Z2)) - H * (H * H) - 2 * (X1 * (Z2 * Z2) * (H * H)) = (l * l - x1 - x2) * ((H * Z1 * Z2) * (H * Z1 * Z2)) := by
  have e2 := lin1 hl
  subst e2 hH hx1 hy1 hx2 hy2
  clear hl
  grind
theorem add2 {F : Type} [Lean.Grind.CommRing F] {X1 Y1 Z1 X2 Y2 Z2 x1 y1 x2 y2 l nx : F} (hx1 : X1 = x1 * (Z1 * Z1)) (hy1 : Y1 = y1 * (Z1 * Z1 * Z1)) (hx2 : X2 = x2 * (Z2 * Z2)) (hy2 : Y2 = y2 * (Z2 * Z2 * Z2)) (hl : y2 - y1 = l * (x2 - x1)) {H : F} (hH : H = X2 * (Z1 * Z1) - X1 * (Z2 * Z2)) (hn : nx = (l * l - x1 - x2) * ((H * Z1 * Z2) * (H * Z1 * Z2))) :
    (Y2 * (Z1 * Z1 * Z1) - Y1 * (Z2 * Z2 * Z2)) * (X1 * (Z2 * Z2) * (H * H) - nx) - Y1 * (Z2 * Z2 * Z2) * (H * (H * H)) = (l * (x1 - (l * l - x1 - x2)) - y1) * ((H * Z1 * Z2) * (H * Z1 * Z2) * (H * Z1 * Z2)) := by
  have e2 := lin1 hl
  have e3 : H = (x2 - x1) * ((Z1 * Z1) * (Z2 * Z2)) := by rw [hH, hx1, hx2]; clear hy1 hy2 hl hn e2 hH; grind
  subst hn e2 hx1 hy1 hx2 hy2
  have e4 : (y1 + l * (x2 - x1)) * (Z2 * Z2 * Z2) * (Z1 * Z1 * Z1) - y1 * (Z1 * Z1 * Z1) * (Z2 * Z2 * Z2) = l * (Z1 * Z2) * H := by rw [e3]; clear hl hH e3; grind
  rw [e4]
  clear hl hH e4 e3
  grind
theorem fsq (x : Int) : fc p (x ^ 2) = fc p x * fc p x := by rw [fc_pow]; grind
theorem fcube (x : Int) : fc p (x ^ 3) = fc p x * fc p x * fc p x := by rw [fc_pow]; grind
theorem ffour (x : Int) : fc p (x ^ 4) = fc p x * fc p x * fc p x * fc p x := by rw [fc_pow]; grind
theorem fin_ne_mul (hp : Prm p) {x y : Fin p} (hx : x ≠ 0) (hy : y ≠ 0) : x * y ≠ 0 := fun e => (fin_dom hp _ _ e).elim hx hy
theorem rep_dbl (hp : Prm p) {A : Int} (C : Cv finv (fc p A) b) {T : Tri} {P : Pt (Fin p)} (hP : On (fc p A) b P) (h : Rep p T P) : Rep p (jdbl p A T) (padd finv (fc p A) P P) := by
  have h0 := rep_y0 hp hP C h
  match P, h with
  | none, h =>
    unfold jdbl
    rw [if_pos h.2]
    exact ⟨rfl, rfl⟩
  | some (x, y), h =>
    have hne : T.2.1 ≠ 0 := fun e => nomatch h0.mp e
    obtain ⟨hr, hz, hx, hy⟩ := h
    have hy0 := on_yne C hP
    have hn : ¬ (x = x ∧ y + y = 0) := fun k => hy0 (C.D.two _ (by have := k.2; clear k h0 hne hr hz hx hy hy0; grind))
    obtain ⟨l, x4, y4, e, q⟩ := padd_fin C hP hP hn
    rw [e]
    unfold jdbl
    rw [if_neg hne]
    have hY0 : fc p T.2.1 ≠ 0 := by
      rw [hy]
      exact fin_ne_mul hp hy0 (fin_ne_mul hp (fin_ne_mul hp hz hz) hz)
    have h2 : (2 : Fin p) ≠ 0 := fun e => by
      have : (2 : Fin p) * 1 = 0 := by rw [e]; clear e h0 hne hr hz hx hy hy0 hn q hY0; grind
      have h1 := C.D.two _ this
      have h3 := fin_inv hp _ hz
      rw [h1] at h3
      exact hz (by have : fc p T.2.2 = fc p T.2.2 * 1 := by (clear h0 hne hr hz hx hy hy0 hn q hY0 e this h1 h3; grind)
                   rw [this, h1]; clear h0 hne hr hz hx hy hy0 hn q hY0 e this h1 h3; grind)
    have hl : l * (2 * y) = 3 * (x * x) + fc p A := by
      have := q.t
      clear h0 hne hr hz hx hy hy0 hn hY0 h2 e
      grind
    have eN : fc p ((3 * T.1 ^ 2 + A * T.2.2 ^ 4) % (p : Int)) = 3 * (fc p T.1 * fc p T.1) + fc p A * (fc p T.2.2 * fc p T.2.2 * fc p T.2.2 * fc p T.2.2) := by
      rw [fc_mod, fc_add, fc_mul, fc_mul, fsq, ffour, fc_three]
    have eS : fc p (4 * T.1 * (T.2.1 ^ 2 % (p : Int)) % (p : Int)) = 4 * fc p T.1 * (fc p T.2.1 * fc p T.2.1) := by
      rw [fc_mod, fc_mul, fc_mul, fc_mod, fsq, fc_four]
    have eZ : fc p (2 * T.2.1 * T.2.2 % (p : Int)) = 2 * fc p T.2.1 * fc p T.2.2 := by
      rw [fc_mod, fc_mul, fc_mul, fc_two]
    have eX : fc p ((((3 * T.1 ^ 2 + A * T.2.2 ^ 4) % (p : Int)) ^ 2 - 2 * (4 * T.1 * (T.2.1 ^ 2 % (p : Int)) % (p : Int))) % (p : Int)) = (l * l - x - x) * ((2 * fc p T.2.1 * fc p T.2.2) * (2 * fc p T.2.1 * fc p T.2.2)) := by
      rw [fc_mod, fc_sub, fc_mul, fsq, eN, eS, fc_two]
      exact dbl1 hx hy hl
    refine ⟨red_mod _, ?_, ?_, ?_⟩
    · show fc p (2 * T.2.1 * T.2.2 % (p : Int)) ≠ 0
      rw [eZ]
      exact fin_ne_mul hp (fin_ne_mul hp h2 hY0) hz
    · show fc p ((((3 * T.1 ^ 2 + A * T.2.2 ^ 4) % (p : Int)) ^ 2 - 2 * (4 * T.1 * (T.2.1 ^ 2 % (p : Int)) % (p : Int))) % (p : Int)) = x4 * (fc p (2 * T.2.1 * T.2.2 % (p : Int)) * fc p (2 * T.2.1 * T.2.2 % (p : Int)))
      rw [eX, eZ, q.x]
    · show fc p ((((3 * T.1 ^ 2 + A * T.2.2 ^ 4) % (p : Int)) * ((4 * T.1 * (T.2.1 ^ 2 % (p : Int)) % (p : Int)) - (((3 * T.1 ^ 2 + A * T.2.2 ^ 4) % (p : Int)) ^ 2 - 2 * (4 * T.1 * (T.2.1 ^ 2 % (p : Int)) % (p : Int))) % (p : Int)) - 8 * (T.2.1 ^ 2 % (p : Int)) ^ 2) % (p : Int)) = y4 * (fc p (2 * T.2.1 * T.2.2 % (p : Int)) * fc p (2 * T.2.1 * T.2.2 % (p : Int)) * fc p (2 * T.2.1 * T.2.2 % (p : Int)))
      rw [fc_mod, fc_sub, fc_mul, fc_sub, fc_mul 8, fsq, fc_mod (T.2.1 ^ 2), fsq, eN, eS, eX, eZ, fc_eight, q.y, q.x]
      exact dbl2 hx hy hl rfl
theorem rep_add (hp : Prm p) {A : Int} (C : Cv finv (fc p A) b) {T U : Tri} {P Q : Pt (Fin p)} (hP : On (fc p A) b P) (hQ : On (fc p A) b Q) (h : Rep p T P) (h' : Rep p U Q) : Rep p (jadd p A T U) (padd finv (fc p A) P Q) := by
  have h0 := rep_y0 hp hP C h
  have h0' := rep_y0 hp hQ C h'
  match P, Q, h, h' with
  | none, Q, h, h' => unfold jadd; rw [if_pos h.2]; exact h'
  | some (x1, y1), none, h, h' =>
    unfold jadd
    rw [if_neg (fun e => nomatch h0.mp e), if_pos h'.2]
    exact h
  | some (x1, y1), some (x2, y2), h, h' =>
    have hne : T.2.1 ≠ 0 := fun e => nomatch h0.mp e
    have hne' : U.2.1 ≠ 0 := fun e => nomatch h0'.mp e
    have hd := rep_dbl hp C hP h
    obtain ⟨hr, hz, hx, hy⟩ := h
    obtain ⟨hr', hz', hx', hy'⟩ := h'
    have eU1 : fc p (T.1 * U.2.2 ^ 2 % (p : Int)) = fc p T.1 * (fc p U.2.2 * fc p U.2.2) := by rw [fc_mod, fc_mul, fsq]
    have eU2 : fc p (U.1 * T.2.2 ^ 2 % (p : Int)) = fc p U.1 * (fc p T.2.2 * fc p T.2.2) := by rw [fc_mod, fc_mul, fsq]
    have eS1 : fc p (T.2.1 * U.2.2 ^ 3 % (p : Int)) = fc p T.2.1 * (fc p U.2.2 * fc p U.2.2 * fc p U.2.2) := by rw [fc_mod, fc_mul, fcube]
    have eS2 : fc p (U.2.1 * T.2.2 ^ 3 % (p : Int)) = fc p U.2.1 * (fc p T.2.2 * fc p T.2.2 * fc p T.2.2) := by rw [fc_mod, fc_mul, fcube]
    have hW := fin_ne_mul hp (fin_ne_mul hp hz hz) (fin_ne_mul hp hz' hz')
    have hW3 := fin_ne_mul hp (fin_ne_mul hp (fin_ne_mul hp hz hz) hz) (fin_ne_mul hp (fin_ne_mul hp hz' hz') hz')
    have iU : T.1 * U.2.2 ^ 2 % (p : Int) = U.1 * T.2.2 ^ 2 % (p : Int) ↔ x1 = x2 := by
      rw [← fc_eq, fc_mul, fc_mul, fsq, fsq, hx, hx']
      constructor
      · intro e
        have k : (x1 - x2) * ((fc p T.2.2 * fc p T.2.2) * (fc p U.2.2 * fc p U.2.2)) = 0 := by
          clear h0 h0' hne hne' hd hx hy hx' hy' eU1 eU2 eS1 eS2 hW hW3 hr hr' hz hz'; grind
        rcases fin_dom hp _ _ k with k | k
        · exact lin3 k
        · exact absurd k hW
      · intro e; subst e; clear h0 h0' hne hne' hd hx hy hx' hy' eU1 eU2 eS1 eS2 hW hW3 hr hr' hz hz'; grind
    have iS : T.2.1 * U.2.2 ^ 3 % (p : Int) = U.2.1 * T.2.2 ^ 3 % (p : Int) ↔ y1 = y2 := by
      rw [← fc_eq, fc_mul, fc_mul, fcube, fcube, hy, hy']
      constructor
      · intro e
        have k : (y1 - y2) * ((fc p T.2.2 * fc p T.2.2 * fc p T.2.2) * (fc p U.2.2 * fc p U.2.2 * fc p U.2.2)) = 0 := by
          clear h0 h0' hne hne' hd hx hy hx' hy' eU1 eU2 eS1 eS2 hW hW3 hr hr' hz hz' iU; grind
        rcases fin_dom hp _ _ k with k | k
        · exact lin3 k
        · exact absurd k hW3
      · intro e; subst e; clear h0 h0' hne hne' hd hx hy hx' hy' eU1 eU2 eS1 eS2 hW hW3 hr hr' hz hz' iU; grind
    unfold jadd
    rw [if_neg hne, if_neg hne']
    dsimp only
    by_cases kx : x1 = x2
    · rw [if_pos (iU.mpr kx)]
      subst kx
      by_cases ky : y1 = y2
      · rw [if_pos (iS.mpr ky)]
        subst ky
        exact hd
      · rw [if_neg (fun e => ky (iS.mp e))]
        rw [padd_inf ⟨rfl, (on_same C hP hQ rfl).resolve_left ky⟩]
        exact ⟨rfl, rfl⟩
    · rw [if_neg (fun e => kx (iU.mp e))]
      have hn : ¬ (x1 = x2 ∧ y1 + y2 = 0) := fun k => kx k.1
      obtain ⟨l, x4, y4, e, q⟩ := padd_fin C hP hQ hn
      rw [e]
      generalize hu1 : T.1 * U.2.2 ^ 2 % (p : Int) = u1 at *
      generalize hu2 : U.1 * T.2.2 ^ 2 % (p : Int) = u2 at *
      generalize hs1 : T.2.1 * U.2.2 ^ 3 % (p : Int) = s1 at *
      generalize hs2 : U.2.1 * T.2.2 ^ 3 % (p : Int) = s2 at *
      have eH : fc p (u2 - u1) = fc p U.1 * (fc p T.2.2 * fc p T.2.2) - fc p T.1 * (fc p U.2.2 * fc p U.2.2) := by rw [fc_sub, eU1, eU2]
      have hH : fc p (u2 - u1) ≠ 0 := by
        rw [eH, hx, hx']
        intro k
        have k' : (x2 - x1) * ((fc p T.2.2 * fc p T.2.2) * (fc p U.2.2 * fc p U.2.2)) = 0 := by
          clear h0 h0' hne hne' hd hx hy hx' hy' eU1 eU2 eS1 eS2 hW hW3 hr hr' hz hz' iU iS eH e q hn kx; grind
        rcases fin_dom hp _ _ k' with k | k
        · exact kx (lin3 k).symm
        · exact hW k
      have eZ : fc p ((u2 - u1) * T.2.2 * U.2.2 % (p : Int)) = fc p (u2 - u1) * fc p T.2.2 * fc p U.2.2 := by rw [fc_mod, fc_mul, fc_mul]
      have eH2 : fc p ((u2 - u1) * (u2 - u1) % (p : Int)) = fc p (u2 - u1) * fc p (u2 - u1) := by rw [fc_mod, fc_mul]
      have eH3 : fc p ((u2 - u1) * ((u2 - u1) * (u2 - u1) % (p : Int)) % (p : Int)) = fc p (u2 - u1) * (fc p (u2 - u1) * fc p (u2 - u1)) := by rw [fc_mod, fc_mul, eH2]
      have eV : fc p (u1 * ((u2 - u1) * (u2 - u1) % (p : Int)) % (p : Int)) = fc p T.1 * (fc p U.2.2 * fc p U.2.2) * (fc p (u2 - u1) * fc p (u2 - u1)) := by rw [fc_mod, fc_mul, eH2, eU1]
      have eX : fc p (((s2 - s1) ^ 2 - (u2 - u1) * ((u2 - u1) * (u2 - u1) % (p : Int)) % (p : Int) - 2 * (u1 * ((u2 - u1) * (u2 - u1) % (p : Int)) % (p : Int))) % (p : Int)) = (l * l - x1 - x2) * ((fc p (u2 - u1) * fc p T.2.2 * fc p U.2.2) * (fc p (u2 - u1) * fc p T.2.2 * fc p U.2.2)) := by
        rw [fc_mod, fc_sub, fc_sub, fsq, fc_sub s2, eS1, eS2, eH3, fc_mul 2, eV, fc_two]
        exact add1 hx hy hx' hy' q.c eH
      refine ⟨red_mod _, ?_, ?_, ?_⟩
      · show fc p ((u2 - u1) * T.2.2 * U.2.2 % (p : Int)) ≠ 0
        rw [eZ]
        exact fin_ne_mul hp (fin_ne_mul hp hH hz) hz'
      · show fc p (((s2 - s1) ^ 2 - (u2 - u1) * ((u2 - u1) * (u2 - u1) % (p : Int)) % (p : Int) - 2 * (u1 * ((u2 - u1) * (u2 - u1) % (p : Int)) % (p : Int))) % (p : Int)) = x4 * (fc p ((u2 - u1) * T.2.2 * U.2.2 % (p : Int)) * fc p ((u2 - u1) * T.2.2 * U.2.2 % (p : Int)))
        rw [eX, eZ, q.x]
      · show fc p (((s2 - s1) * (u1 * ((u2 - u1) * (u2 - u1) % (p : Int)) % (p : Int) - ((s2 - s1) ^ 2 - (u2 - u1) * ((u2 - u1) * (u2 - u1) % (p : Int)) % (p : Int) - 2 * (u1 * ((u2 - u1) * (u2 - u1) % (p : Int)) % (p : Int))) % (p : Int)) - s1 * ((u2 - u1) * ((u2 - u1) * (u2 - u1) % (p : Int)) % (p : Int))) % (p : Int)) = y4 * (fc p ((u2 - u1) * T.2.2 * U.2.2 % (p : Int)) * fc p ((u2 - u1) * T.2.2 * U.2.2 % (p : Int)) * fc p ((u2 - u1) * T.2.2 * U.2.2 % (p : Int)))
        rw [fc_mod, fc_sub, fc_mul, fc_mul s1, fc_sub s2, fc_sub (u1 * _ % _), eX, eV, eH3, eS1, eS2, eZ, q.y, q.x]
        exact add2 hx hy hx' hy' q.c eH rfl
end

section
variable {F : Type} [Lean.Grind.CommRing F] [DecidableEq F]
/-- n times a place -/
def psm (inv : F → F) (a : F) : Nat → Pt F → Pt F
  | 0, _ => none
  | n + 1, P => padd inv a (psm inv a n P) P
variable {inv : F → F} {a b : F}
theorem psm_on (C : Cv inv a b) {P : Pt F} (hP : On a b P) : ∀ n, On a b (psm inv a n P)
  | 0 => trivial
  | n + 1 => padd_on C (psm_on C hP n) hP
theorem psm_one (P : Pt F) : psm inv a 1 P = P := rfl
theorem psm_none : ∀ n, psm inv a n none = none
  | 0 => rfl
  | n + 1 => by show padd inv a (psm inv a n none) none = none; rw [padd_none_r, psm_none n]
theorem psm_add (C : Cv inv a b) {P : Pt F} (hP : On a b P) (m : Nat) : ∀ n, psm inv a (m + n) P = padd inv a (psm inv a m P) (psm inv a n P)
  | 0 => (padd_none_r _).symm
  | n + 1 => by
    show padd inv a (psm inv a (m + n) P) P = padd inv a (psm inv a m P) (padd inv a (psm inv a n P) P)
    rw [psm_add C hP m n, padd_assoc C (psm_on C hP m) (psm_on C hP n) hP]
theorem psm_mul (C : Cv inv a b) {P : Pt F} (hP : On a b P) (m : Nat) : ∀ n, psm inv a (m * n) P = psm inv a n (psm inv a m P)
  | 0 => rfl
  | n + 1 => by
    rw [Nat.mul_succ, psm_add C hP, psm_mul C hP m n]; rfl
theorem psm_padd (C : Cv inv a b) {P Q : Pt F} (hP : On a b P) (hQ : On a b Q) : ∀ n, psm inv a n (padd inv a P Q) = padd inv a (psm inv a n P) (psm inv a n Q)
  | 0 => rfl
  | n + 1 => by
    have h1 := psm_on C hP n
    have h2 := psm_on C hQ n
    show padd inv a (psm inv a n (padd inv a P Q)) (padd inv a P Q) = padd inv a (padd inv a (psm inv a n P) P) (padd inv a (psm inv a n Q) Q)
    rw [psm_padd C hP hQ n, padd_assoc C h1 h2 (padd_on C hP hQ), padd_assoc C h1 hP (padd_on C h2 hQ), ← padd_assoc C h2 hP hQ, padd_comm C h2 hP, padd_assoc C hP h2 hQ]
/-- order: N times any place is none -/
def Tor (inv : F → F) (a b : F) (N : Nat) : Prop := ∀ P, On a b P → psm inv a N P = none
theorem psm_mod (C : Cv inv a b) {N : Nat} (hT : Tor inv a b N) {P : Pt F} (hP : On a b P) (n : Nat) : psm inv a (n % N) P = psm inv a n P := by
  have e : n = N * (n / N) + n % N := (Nat.div_add_mod n N).symm
  have h : psm inv a n P = psm inv a (N * (n / N) + n % N) P := by rw [← e]
  rw [h, psm_add C hP, psm_mul C hP, hT P hP, psm_none, padd_none_l]
/-- a whole number of times, by its rest -/
def zsm (inv : F → F) (a : F) (N : Nat) (k : Int) (P : Pt F) : Pt F := psm inv a (k % (N : Int)).toNat P
theorem zsm_on (C : Cv inv a b) {N : Nat} {P : Pt F} (hP : On a b P) (k : Int) : On a b (zsm inv a N k P) := psm_on C hP _
theorem zsm_congr {N : Nat} {k j : Int} (h : k % (N : Int) = j % (N : Int)) (P : Pt F) : zsm inv a N k P = zsm inv a N j P := by unfold zsm; rw [h]
theorem zsm_nat (C : Cv inv a b) {N : Nat} (hT : Tor inv a b N) {P : Pt F} (hP : On a b P) (n : Nat) : zsm inv a N (n : Int) P = psm inv a n P := by
  unfold zsm
  rw [← Int.natCast_emod, Int.toNat_natCast, psm_mod C hT hP]
theorem zsm_of_nat (C : Cv inv a b) {N : Nat} (hT : Tor inv a b N) {P : Pt F} (hP : On a b P) {k : Int} {n : Nat} (h : k % (N : Int) = (n : Int) % (N : Int)) : zsm inv a N k P = psm inv a n P := by
  rw [zsm_congr h, zsm_nat C hT hP]
theorem zrest {N : Nat} (hN : 0 < N) (k : Int) : (((k % (N : Int)).toNat : Nat) : Int) = k % (N : Int) := Int.toNat_of_nonneg (Int.emod_nonneg k (by omega))
theorem zsm_add (C : Cv inv a b) {N : Nat} (hN : 0 < N) (hT : Tor inv a b N) {P : Pt F} (hP : On a b P) (k j : Int) : zsm inv a N (k + j) P = padd inv a (zsm inv a N k P) (zsm inv a N j P) := by
  rw [zsm_of_nat C hT hP (n := (k % (N : Int)).toNat + (j % (N : Int)).toNat), psm_add C hP]
  · rfl
  · rw [Int.natCast_add, zrest hN, zrest hN, ← Int.add_emod]
theorem zsm_mul (C : Cv inv a b) {N : Nat} (hN : 0 < N) (hT : Tor inv a b N) {P : Pt F} (hP : On a b P) (k j : Int) : zsm inv a N (k * j) P = zsm inv a N j (zsm inv a N k P) := by
  rw [zsm_of_nat C hT hP (n := (k % (N : Int)).toNat * (j % (N : Int)).toNat), psm_mul C hP]
  · rfl
  · rw [Int.natCast_mul, zrest hN, zrest hN, ← Int.mul_emod]
theorem zsm_padd (C : Cv inv a b) {N : Nat} {P Q : Pt F} (hP : On a b P) (hQ : On a b Q) (k : Int) : zsm inv a N k (padd inv a P Q) = padd inv a (zsm inv a N k P) (zsm inv a N k Q) := psm_padd C hP hQ _
theorem zsm_one (C : Cv inv a b) {N : Nat} (hT : Tor inv a b N) {P : Pt F} (hP : On a b P) : zsm inv a N 1 P = P := zsm_nat C hT hP 1
theorem pneg_uniq (C : Cv inv a b) {P Q : Pt F} (hP : On a b P) (hQ : On a b Q) (h : padd inv a P Q = none) : Q = pneg P := by
  have := padd_cancel' C hQ hP
  rw [h, padd_none_r] at this
  exact this.symm
theorem zsm_neg (C : Cv inv a b) {N : Nat} (hN : 0 < N) (hT : Tor inv a b N) {P : Pt F} (hP : On a b P) (k : Int) : zsm inv a N (-k) P = pneg (zsm inv a N k P) := by
  refine pneg_uniq C (zsm_on C hP k) (zsm_on C hP _) ?_
  rw [← zsm_add C hN hT hP, Int.add_right_neg]
  unfold zsm
  rw [Int.zero_emod]; rfl
theorem zsm_none {N : Nat} (k : Int) : zsm inv a N k none = none := psm_none _
end
section
variable {p : Nat} [NeZero p] {b : Fin p}
theorem rep_mulN (hp : Prm p) {A : Int} (C : Cv finv (fc p A) b) {T : Tri} {P : Pt (Fin p)} (hP : On (fc p A) b P) (h : Rep p T P) (n : Nat) : Rep p (jmulN p A T n) (psm finv (fc p A) n P) := by
  induction n using Nat.strongRecOn with
  | ind n ih =>
    rw [jmulN]
    by_cases h0 : n = 0
    · rw [if_pos h0, h0]; exact ⟨rfl, rfl⟩
    rw [if_neg h0]
    by_cases h1 : n = 1
    · rw [if_pos h1, h1]; exact h
    rw [if_neg h1]
    have hd := rep_dbl hp C (psm_on C hP (n / 2)) (ih (n / 2) (by omega))
    rw [← psm_add C hP] at hd
    by_cases h2 : n % 2 = 0
    · rw [if_pos h2]
      have e : n / 2 + n / 2 = n := by omega
      rw [e] at hd
      exact hd
    · rw [if_neg h2]
      have e : n / 2 + n / 2 + 1 = n := by omega
      have hh := rep_add hp C (psm_on C hP _) hP hd h
      have e2 : padd finv (fc p A) (psm finv (fc p A) (n / 2 + n / 2) P) P = psm finv (fc p A) (n / 2 + n / 2 + 1) P := rfl
      rw [e2, e] at hh
      exact hh
theorem rep_mul (hp : Prm p) {A : Int} (C : Cv finv (fc p A) b) {N : Nat} {T : Tri} {P : Pt (Fin p)} (hP : On (fc p A) b P) (h : Rep p T P) (n : Int) : Rep p (jmul p N A T n) (zsm finv (fc p A) N n P) := by
  unfold jmul
  by_cases h0 : T.2.1 = 0
  · rw [if_pos h0, (rep_y0 hp hP C h).mp h0, zsm_none]
    exact ⟨rfl, rfl⟩
  · rw [if_neg h0]
    exact rep_mulN hp C hP h _
end

/-- low and high have no common divisor but units -/
def Cop (x y : Int) : Prop := ∀ d : Int, d ∣ x → d ∣ y → d ∣ 1
theorem egl_inv {n a : Int} : ∀ (k : Nat) (lm hm low high : Int), low.toNat ≤ k → 0 ≤ low → low < high → 1 < high → n ∣ lm * a - low → n ∣ hm * a - high → Cop low high → n ∣ egl lm hm low high * a - 1 := by
  intro k
  induction k with
  | zero =>
    intro lm hm low high hk h0 h1 h2 d1 d2 hc
    have e : low = 0 := by omega
    subst e
    have := hc high (Int.dvd_zero high) (Int.dvd_refl high)
    have := Int.le_of_dvd (by decide) this
    omega
  | succ k ih =>
    intro lm hm low high hk h0 h1 h2 d1 d2 hc
    rw [egl.eq_def]
    by_cases hl : low > 1
    · rw [if_pos hl]
      have q1 := Int.emod_lt_of_pos high (show (0 : Int) < low by omega)
      have q2 := Int.mul_ediv_add_emod high low
      have q3 := Int.emod_nonneg high (show low ≠ 0 by omega)
      refine ih _ _ _ _ (by omega) (by omega) (by omega) hl ?_ d1 ?_
      · have e : (hm - lm * (high / low)) * a - (high - low * (high / low)) = (hm * a - high) - (lm * a - low) * (high / low) := by
          generalize high / low = q
          grind
        rw [e]
        exact Int.dvd_sub d2 (Int.dvd_mul_of_dvd_left d1)
      · intro d e1 e2
        refine hc d e2 ?_
        have e : high = (high - low * (high / low)) + low * (high / low) := by omega
        rw [e]
        exact Int.dvd_add e1 (Int.dvd_mul_of_dvd_left e2)
    · rw [if_neg hl]
      have h3 : low = 0 ∨ low = 1 := by omega
      rcases h3 with e | e
      · subst e
        have := hc high (Int.dvd_zero high) (Int.dvd_refl high)
        have := Int.le_of_dvd (by decide) this
        omega
      · subst e; exact d1
theorem cop_prime {N : Nat} (hN : Prm N) {x : Int} (h0 : 0 < x) (h1 : x < (N : Int)) : Cop x (N : Int) := by
  intro d e1 e2
  have h : d.natAbs ∣ N := by
    have := Int.natAbs_dvd_natAbs.mpr e2
    simpa using this
  rcases hN.2 _ h with k | k
  · exact Int.natAbs_dvd.mp (by rw [k]; exact Int.dvd_refl _)
  · have h2 : (N : Int) ∣ x := by
      rw [← k]; exact Int.natAbs_dvd.mpr e1
    have := Int.le_of_dvd h0 h2
    omega
theorem pinv_spec {N : Nat} [NeZero N] (hN : Prm N) {x : Int} (h : fc N x ≠ 0) : fc N (pinv x N) * fc N x = 1 := by
  have hx : x % (N : Int) ≠ 0 := by
    intro e
    apply h
    rw [← fc_zero (p := N), fc_eq, e, Int.zero_emod]
  have hn1 : (1 : Int) < (N : Int) := by have := hN.1; omega
  have r0 := Int.emod_nonneg x (show (N : Int) ≠ 0 by omega)
  have r1 := Int.emod_lt_of_pos x (show (0 : Int) < (N : Int) by omega)
  have hx0 : x ≠ 0 := fun e => hx (by rw [e, Int.zero_emod])
  have key := egl_inv (n := (N : Int)) (a := x) (x % (N : Int)).toNat 1 0 (x % (N : Int)) (N : Int) (Nat.le_refl _) r0 r1 hn1
    (by rw [Int.one_mul]; exact Int.dvd_self_sub_emod)
    (by rw [Int.zero_mul, Int.zero_sub]; exact Int.dvd_neg.mpr (Int.dvd_refl _))
    (cop_prime hN (by omega) r1)
  unfold pinv
  rw [if_neg hx0, fc_mod, ← fc_mul, ← fc_one, fc_eq]
  exact Int.emod_eq_emod_iff_emod_sub_eq_zero.mpr (Int.emod_eq_zero_of_dvd key)
theorem pinv_red {N : Nat} [NeZero N] (x : Int) : Red N (pinv x N) := by
  unfold pinv
  split
  · exact ⟨Int.le_refl _, npos⟩
  · exact red_mod _

section
variable {F : Type} [Lean.Grind.CommRing F] [DecidableEq F] {inv : F → F} {a b : F}
def lsum (inv : F → F) (a : F) (l : List (Pt F)) : Pt F := l.foldr (padd inv a) none
theorem lsum_on (C : Cv inv a b) : ∀ {l : List (Pt F)}, (∀ P ∈ l, On a b P) → On a b (lsum inv a l)
  | [], _ => trivial
  | P :: l, h => padd_on C (h P List.mem_cons_self) (lsum_on C fun Q hQ => h Q (List.mem_cons_of_mem _ hQ))
theorem lsum_perm (C : Cv inv a b) {l l' : List (Pt F)} (h : l.Perm l') : (∀ P ∈ l, On a b P) → lsum inv a l = lsum inv a l' := by
  induction h with
  | nil => intro _; rfl
  | cons x h ih => intro hl; show padd inv a x _ = padd inv a x _; exact congrArg _ (ih fun Q hQ => hl Q (List.mem_cons_of_mem _ hQ))
  | swap x y l =>
    intro hl
    have hx := hl x (by simp)
    have hy := hl y (by simp)
    have hs : On a b (lsum inv a l) := lsum_on C fun Q hQ => hl Q (by simp [hQ])
    show padd inv a y (padd inv a x (lsum inv a l)) = padd inv a x (padd inv a y (lsum inv a l))
    rw [← padd_assoc C hy hx hs, ← padd_assoc C hx hy hs, padd_comm C hy hx]
  | trans h1 h2 i1 i2 => intro hl; exact (i1 hl).trans (i2 fun Q hQ => hl Q (h1.mem_iff.mpr hQ))
theorem lsum_map (C : Cv inv a b) {Q : Pt F} (hQ : On a b Q) : ∀ {l : List (Pt F)}, (∀ P ∈ l, On a b P) → lsum inv a (l.map (padd inv a Q)) = padd inv a (psm inv a l.length Q) (lsum inv a l)
  | [], _ => rfl
  | P :: l, h => by
    have hP := h P List.mem_cons_self
    have hl : ∀ R ∈ l, On a b R := fun R hR => h R (List.mem_cons_of_mem _ hR)
    have hs := lsum_on C hl
    have hk := psm_on C hQ l.length
    show padd inv a (padd inv a Q P) (lsum inv a (l.map _)) = padd inv a (padd inv a (psm inv a l.length Q) Q) (padd inv a P (lsum inv a l))
    rw [lsum_map C hQ hl, padd_assoc C hQ hP (padd_on C hk hs), ← padd_assoc C hP hk hs, padd_comm C hP hk, padd_assoc C hk hP hs, ← padd_assoc C hQ hk (padd_on C hP hs), padd_comm C hQ hk]
/-- a list of just the places: that many times any place is none -/
theorem tor_of_list (C : Cv inv a b) {l : List (Pt F)} (hn : l.Nodup) (hm : ∀ P, P ∈ l ↔ On a b P) : Tor inv a b l.length := by
  intro Q hQ
  have hl : ∀ P ∈ l, On a b P := fun P hP => (hm P).mp hP
  have hinj : ∀ P ∈ l, ∀ R ∈ l, padd inv a Q P = padd inv a Q R → P = R := by
    intro P hP R hR e
    rw [← padd_cancel' C (hl P hP) hQ, ← padd_cancel' C (hl R hR) hQ, e]
  have hnd : (l.map (padd inv a Q)).Nodup := by
    rw [List.nodup_iff_pairwise_ne] at hn ⊢
    rw [List.pairwise_map]
    exact hn.imp_of_mem fun hP hR hne e => hne (hinj _ hP _ hR e)
  have hp : (l.map (padd inv a Q)).Perm l := by
    refine perm_of_nodup_subset hnd (fun P hP => ?_) (by simp)
    obtain ⟨R, hR, e⟩ := List.mem_map.mp hP
    rw [← e]
    exact (hm _).mpr (padd_on C hQ (hl R hR))
  have h1 := lsum_perm C hp (fun P hP => (hm P).mp (hp.mem_iff.mp hP))
  rw [lsum_map C hQ hl] at h1
  have hs := lsum_on C hl
  have h2 := padd_cancel C (psm_on C hQ l.length) hs
  rw [h1, padd_neg] at h2
  exact h2.symm
theorem psm_mod1 (C : Cv inv a b) {N : Nat} {P : Pt F} (hP : On a b P) (h : psm inv a N P = none) (n : Nat) : psm inv a (n % N) P = psm inv a n P := by
  have e : n = N * (n / N) + n % N := (Nat.div_add_mod n N).symm
  have h' : psm inv a n P = psm inv a (N * (n / N) + n % N) P := by rw [← e]
  rw [h', psm_add C hP, psm_mul C hP, h, psm_none, padd_none_l]
/-- the order of a place is no proper part of a prime -/
theorem order_dvd (C : Cv inv a b) {N : Nat} [NeZero N] (hN : Prm N) {P : Pt F} (hP : On a b P) (h0 : P ≠ none) (h : psm inv a N P = none) {m : Nat} (hm : psm inv a m P = none) : N ∣ m := by
  by_cases hd : N ∣ m
  · exact hd
  · exfalso
    have hne : fc N (m : Int) ≠ 0 := by
      intro e
      rw [← fc_zero (p := N), fc_eq, Int.zero_emod] at e
      exact hd (Int.natCast_dvd_natCast.mp (Int.dvd_of_emod_eq_zero e))
    have hi := fin_inv hN _ hne
    have e1 : (m * (finv (fc N (m : Int))).val) % N = 1 := by
      have h1 : (fc N (m : Int) * finv (fc N (m : Int))).val = 1 := by
        rw [hi]
        show 1 % N = 1
        exact Nat.mod_eq_of_lt hN.1
      rw [Fin.val_mul] at h1
      have h2 : (fc N (m : Int)).val = m % N := by
        have := fc_val (p := N) (m : Int)
        rw [← Int.natCast_emod] at this
        omega
      rw [h2, Nat.mod_mul_mod] at h1
      exact h1
    have h3 := psm_mod1 C hP h (m * (finv (fc N (m : Int))).val)
    rw [e1, psm_mul C hP, hm, psm_none] at h3
    exact h0 h3
end

section
variable {p : Nat} [NeZero p] {a b : Fin p}
/-- the heights over x -/
def ysOf (a b x : Fin p) : List (Fin p) := (List.finRange p).filter fun y => decide (y * y = x * x * x + a * x + b)
def ptsOf (a b : Fin p) : List (Pt (Fin p)) := none :: (List.finRange p).flatMap fun x => (ysOf a b x).map fun y => some (x, y)
theorem mem_ys {x y : Fin p} : y ∈ ysOf a b x ↔ y * y = x * x * x + a * x + b := by
  unfold ysOf
  rw [List.mem_filter]
  simp [List.mem_finRange]
theorem mem_pts (P : Pt (Fin p)) : P ∈ ptsOf a b ↔ On a b P := by
  unfold ptsOf
  match P with
  | none => simp [On]
  | some (x, y) =>
    rw [List.mem_cons]
    constructor
    · rintro (h | h)
      · nomatch h
      · obtain ⟨x', _, h⟩ := List.mem_flatMap.mp h
        obtain ⟨y', hy, e⟩ := List.mem_map.mp h
        have e2 : x' = x ∧ y' = y := by simpa using e
        rw [← e2.1, ← e2.2]
        exact mem_ys.mp hy
    · intro h
      exact .inr (List.mem_flatMap.mpr ⟨x, List.mem_finRange x, List.mem_map.mpr ⟨y, mem_ys.mpr h, rfl⟩⟩)
theorem ys_nodup (x : Fin p) : (ysOf a b x).Nodup := by
  have h := List.nodup_finRange p
  unfold ysOf
  rw [List.nodup_iff_pairwise_ne] at h ⊢
  exact h.filter _
theorem pts_nodup : (ptsOf a b).Nodup := by
  unfold ptsOf
  rw [List.nodup_cons]
  constructor
  · intro h
    obtain ⟨x, _, h⟩ := List.mem_flatMap.mp h
    obtain ⟨y, _, e⟩ := List.mem_map.mp h
    nomatch e
  · have h := List.nodup_finRange p
    rw [List.nodup_iff_pairwise_ne] at h ⊢
    rw [List.pairwise_flatMap]
    refine ⟨fun x _ => ?_, ?_⟩
    · have := ys_nodup (a := a) (b := b) x
      rw [List.nodup_iff_pairwise_ne] at this
      rw [List.pairwise_map]
      exact this.imp fun hne e => hne (by simpa using e)
    · refine h.imp fun {x x'} hne => ?_
      intro P hP Q hQ e
      obtain ⟨y, _, e1⟩ := List.mem_map.mp hP
      obtain ⟨y', _, e2⟩ := List.mem_map.mp hQ
      rw [← e1, ← e2] at e
      have : x = x' ∧ y = y' := by simpa using e
      exact hne this.1
theorem ys_len (hp : Prm p) (C : Cv finv a b) (x : Fin p) : (ysOf a b x).length = 0 ∨ (ysOf a b x).length = 2 := by
  by_cases h0 : (ysOf a b x) = []
  · left; rw [h0]; rfl
  · right
    obtain ⟨y, hy⟩ := List.exists_mem_of_ne_nil _ h0
    have hy' := mem_ys.mp hy
    have hne : y ≠ 0 := on_yne C (x := x) hy'
    have hneg : -y ∈ ysOf a b x := mem_ys.mpr (by rw [← hy']; clear hy hy' hne h0; grind)
    have hyn : y ≠ -y := fun e => hne (C.D.two _ (by clear hy hy' hne h0 hneg; grind))
    have h1 : [y, -y].Nodup := by simp [hyn]
    have hsub : ∀ z ∈ ysOf a b x, z ∈ [y, -y] := by
      intro z hz
      have hz' := mem_ys.mp hz
      have q : (z - y) * (z + y) = 0 := by clear hy hz hne h0 hneg hyn h1; grind
      rcases fin_dom hp _ _ q with k | k
      · have := lin3 k; simp [this]
      · have : z = -y := by clear hy hz hne h0 hneg hyn h1 hy' hz' q; grind
        simp [this]
    have hle1 : (ysOf a b x).length ≤ 2 := by
      by_cases hc : 2 ≤ (ysOf a b x).length
      · have := (perm_of_nodup_subset (ys_nodup x) hsub (by simpa using hc)).length_eq
        simp at this; omega
      · omega
    have hle2 : 2 ≤ (ysOf a b x).length := by
      by_cases hc : (ysOf a b x).length ≤ 2
      · have := (perm_of_nodup_subset h1 (fun z hz => by
          rcases List.mem_cons.mp hz with e | e
          · rw [e]; exact hy
          · rw [List.mem_singleton.mp e]; exact hneg) (by simpa using hc)).length_eq
        simp at this; omega
      · omega
    omega
theorem flat_len {α β : Type} {f : α → List β} (hf : ∀ x, (f x).length = 0 ∨ (f x).length = 2) : ∀ l : List α, ∃ k, (l.flatMap f).length = 2 * k ∧ k ≤ l.length
  | [] => ⟨0, rfl, Nat.le_refl _⟩
  | x :: l => by
    obtain ⟨k, e, hk⟩ := flat_len hf l
    rw [List.flatMap_cons, List.length_append, e, List.length_cons]
    rcases hf x with h | h
    · exact ⟨k, by omega, by omega⟩
    · exact ⟨k + 1, by omega, by omega⟩
theorem pts_len (hp : Prm p) (C : Cv finv a b) : ∃ k, (ptsOf a b).length = 2 * k + 1 ∧ k ≤ p := by
  obtain ⟨k, e, hk⟩ := flat_len (f := fun x => (ysOf a b x).map fun y => (some (x, y) : Pt (Fin p))) (fun x => by
    rw [List.length_map]; exact ys_len hp C x) (List.finRange p)
  refine ⟨k, ?_, by simpa using hk⟩
  unfold ptsOf
  rw [List.length_cons, e]
theorem tor_pts (C : Cv finv a b) : Tor finv a b (ptsOf a b).length := tor_of_list C pts_nodup mem_pts
/-- a prime order that is more than a third of 2p + 1 is the number of the points -/
theorem tor_of_order (hp : Prm p) (C : Cv finv a b) {N : Nat} [NeZero N] (hN : Prm N) {P : Pt (Fin p)} (hP : On a b P) (h0 : P ≠ none) (h : psm finv a N P = none) (h3 : 2 * p + 1 < 3 * N) : Tor finv a b N := by
  obtain ⟨k, e, hk⟩ := pts_len hp C
  have hT := tor_pts C
  obtain ⟨q, hq⟩ := order_dvd C hN hP h0 h (hT P hP)
  have hq1 : q = 1 := by
    have h4 : N * q = 2 * k + 1 := by rw [← hq, e]
    have h5 : q < 3 := by
      by_cases hc : q < 3
      · exact hc
      · have : N * 3 ≤ N * q := Nat.mul_le_mul_left N (by omega)
        omega
    have h6 : q ≠ 0 := fun z => by rw [z] at h4; omega
    have h7 : q ≠ 2 := fun z => by rw [z] at h4; omega
    omega
  rw [hq1, Nat.mul_one] at hq
  rw [← hq]
  exact hT
end

section
variable {p : Nat} [NeZero p] {b : Fin p}
/-- a place as the programs write it -/
def flatP : Pt (Fin p) → Int × Int
  | none => (0, 0)
  | some (x, y) => ((x.val : Int), (y.val : Int))
theorem val_of_fc {x : Fin p} {w : Int} (h : fc p w = x) : w % (p : Int) = (x.val : Int) := by rw [← fc_val, h]
theorem fc_of_val (x : Fin p) : fc p (x.val : Int) = x := by
  apply Fin.ext
  have h := fc_val (p := p) (x.val : Int)
  rw [Int.emod_eq_of_lt (by omega) (by have := x.isLt; omega)] at h
  omega
theorem fromJ_rep (hp : Prm p) {T : Tri} {P : Pt (Fin p)} (h : Rep p T P) : fromJ p T = flatP P := by
  match P, h with
  | none, h =>
    show (T.1 * pinv T.2.2 p ^ 2 % (p : Int), T.2.1 * pinv T.2.2 p ^ 3 % (p : Int)) = (0, 0)
    rw [h.1, h.2, Int.zero_mul, Int.zero_mul, Int.zero_emod]
  | some (x, y), h =>
    obtain ⟨hr, hz, hx, hy⟩ := h
    have hi := pinv_spec hp hz
    have e1 : fc p (T.1 * pinv T.2.2 p ^ 2) = x := by
      rw [fc_mul, fsq, hx]
      have e : x * (fc p T.2.2 * fc p T.2.2) * (fc p (pinv T.2.2 p) * fc p (pinv T.2.2 p)) = x * ((fc p (pinv T.2.2 p) * fc p T.2.2) * (fc p (pinv T.2.2 p) * fc p T.2.2)) := by clear hi hx hy hz hr; grind
      rw [e, hi]; clear hi hx hy hz hr e; grind
    have e2 : fc p (T.2.1 * pinv T.2.2 p ^ 3) = y := by
      rw [fc_mul, fcube, hy]
      have e : y * (fc p T.2.2 * fc p T.2.2 * fc p T.2.2) * (fc p (pinv T.2.2 p) * fc p (pinv T.2.2 p) * fc p (pinv T.2.2 p)) = y * ((fc p (pinv T.2.2 p) * fc p T.2.2) * (fc p (pinv T.2.2 p) * fc p T.2.2) * (fc p (pinv T.2.2 p) * fc p T.2.2)) := by clear hi hx hy hz hr e1; grind
      rw [e, hi]; clear hi hx hy hz hr e e1; grind
    show (T.1 * pinv T.2.2 p ^ 2 % (p : Int), T.2.1 * pinv T.2.2 p ^ 3 % (p : Int)) = ((x.val : Int), (y.val : Int))
    rw [val_of_fc e1, val_of_fc e2]
theorem rep_affine (hp : Prm p) {x y : Int} (hy : Red p y) : Rep p (x, y, 1) (some (fc p x, fc p y)) := by
  refine ⟨hy, ?_, ?_, ?_⟩
  · show fc p 1 ≠ 0
    intro e
    have := (fc_zero_iff (p := p) (x := 1) (by decide) (by have := hp.1; omega)).mp e
    omega
  · show fc p x = fc p x * (fc p 1 * fc p 1)
    rw [fc_one]; grind
  · show fc p y = fc p y * (fc p 1 * fc p 1 * fc p 1)
    rw [fc_one]; grind
theorem pmul_spec (hp : Prm p) {A : Int} (C : Cv finv (fc p A) b) {N : Nat} {x y : Int} (hy : Red p y) (hP : On (fc p A) b (some (fc p x, fc p y))) (n : Int) :
    pmul p N A x y n = flatP (zsm finv (fc p A) N n (some (fc p x, fc p y))) :=
  fromJ_rep hp (rep_mul hp C hP (rep_affine hp hy) n)
/-- the curve's own conditions, as ints -/
theorem cv_of (hp : Prm p) (h2 : p ≠ 2) {A B : Int} (hroot : ∀ x : Fin p, x * x * x + fc p A * x + fc p B ≠ 0) : Cv finv (fc p A) (fc p B) where
  D := ⟨fin_dom hp, fun x h => by
    rcases fin_dom hp _ _ h with k | k
    · exfalso
      have e : fc p 2 = 0 := by rw [fc_two]; exact k
      have := (fc_zero_iff (p := p) (x := 2) (by decide) (by have := hp.1; omega)).mp e
      omega
    · exact k⟩
  inv := fin_inv hp
  root := hroot
end

/-- the first law's own sum of two places -/
def lsumI (P A : Int) : Option (Int × Int) → Option (Int × Int) → Option (Int × Int)
  | none, q => q
  | some r, none => some r
  | some r, some q =>
    if r.1 = q.1 ∧ (r.2 + q.2) % P = 0 then none else
      let m := if r = q then (3 * r.1 * r.1 + A) * ((2 * r.2 % P) ^ (P - 2).toNat % P) else (q.2 - r.2) * (((q.1 - r.1) % P) ^ (P - 2).toNat % P)
      some ((m * m - r.1 - q.1) % P, (m * (r.1 - (m * m - r.1 - q.1) % P) - r.2) % P)
def ltI (P A : Int) (n : Nat) (told point : Option (Int × Int)) : Option (Int × Int) :=
  if n = 0 then told else ltI P A (n / 2) (if n % 2 = 1 then lsumI P A told point else told) (lsumI P A point point)
termination_by n
decreasing_by omega

section
variable {p : Nat} [NeZero p] {b : Fin p}
def toF (p : Nat) [NeZero p] : Option (Int × Int) → Pt (Fin p)
  | none => none
  | some r => some (fc p r.1, fc p r.2)
def RedP (p : Nat) : Option (Int × Int) → Prop
  | none => True
  | some r => Red p r.1 ∧ Red p r.2
theorem red_inj {x y : Int} (hx : Red p x) (hy : Red p y) (h : fc p x = fc p y) : x = y := by
  rw [fc_eq, Int.emod_eq_of_lt hx.1 hx.2, Int.emod_eq_of_lt hy.1 hy.2] at h
  exact h
theorem fc_inv {w : Int} (hp : Prm p) : fc p ((w % (p : Int)) ^ ((p : Int) - 2).toNat % (p : Int)) = finv (fc p w) := by
  rw [fc_mod, fc_pow, fc_mod]
  unfold finv
  have := hp.1
  rw [show ((p : Int) - 2).toNat = p - 2 by omega]
theorem lsumI_ok (hp : Prm p) {A : Int} (_C : Cv finv (fc p A) b) {S T : Option (Int × Int)} (hS : RedP p S) (hT : RedP p T) (oS : On (fc p A) b (toF p S)) (oT : On (fc p A) b (toF p T)) :
    RedP p (lsumI p A S T) ∧ toF p (lsumI p A S T) = padd finv (fc p A) (toF p S) (toF p T) := by
  match S, T, hS, hT, oS, oT with
  | none, T, _, hT, _, _ => exact ⟨hT, rfl⟩
  | some r, none, hS, _, _, _ => exact ⟨hS, rfl⟩
  | some (x1, y1), some (x2, y2), hS, hT, oS, oT =>
    have ex : x1 = x2 ↔ fc p x1 = fc p x2 := ⟨fun e => by rw [e], fun e => red_inj hS.1 hT.1 e⟩
    have ey : (y1 + y2) % (p : Int) = 0 ↔ fc p y1 + fc p y2 = 0 := by
      rw [← fc_add, ← fc_zero (p := p), fc_eq, Int.zero_emod]
    unfold lsumI
    dsimp only
    by_cases h0 : x1 = x2 ∧ (y1 + y2) % (p : Int) = 0
    · rw [if_pos h0]
      refine ⟨trivial, ?_⟩
      exact (padd_inf (inv := finv) ⟨ex.mp h0.1, ey.mp h0.2⟩).symm
    · rw [if_neg h0]
      have h0' : ¬ (fc p x1 = fc p x2 ∧ fc p y1 + fc p y2 = 0) := fun k => h0 ⟨ex.mpr k.1, ey.mpr k.2⟩
      have em : fc p (if (x1, y1) = (x2, y2) then (3 * x1 * x1 + A) * ((2 * y1 % (p : Int)) ^ ((p : Int) - 2).toNat % (p : Int)) else (y2 - y1) * (((x2 - x1) % (p : Int)) ^ ((p : Int) - 2).toNat % (p : Int)))
          = if fc p x1 = fc p x2 then (3 * (fc p x1 * fc p x1) + fc p A) * finv (2 * fc p y1) else (fc p y2 - fc p y1) * finv (fc p x2 - fc p x1) := by
        by_cases e : x1 = x2
        · have e2 : fc p y1 = fc p y2 := (on_same _C oS oT (ex.mp e)).resolve_right fun k => h0' ⟨ex.mp e, k⟩
          have e3 : y1 = y2 := red_inj hS.2 hT.2 e2
          rw [if_pos (by rw [e, e3]), if_pos (ex.mp e), fc_mul, fc_inv hp, fc_add, fc_mul, fc_mul, fc_mul, fc_three, fc_two]
          have e4 : (3 : Fin p) * fc p x1 * fc p x1 = 3 * (fc p x1 * fc p x1) := by clear ey ex h0 h0' e e2 e3; grind
          rw [e4]
        · rw [if_neg (fun k => e (by simpa using congrArg Prod.fst k)), if_neg (fun k => e (ex.mpr k)), fc_mul, fc_inv hp, fc_sub, fc_sub]
      generalize (if (x1, y1) = (x2, y2) then (3 * x1 * x1 + A) * ((2 * y1 % (p : Int)) ^ ((p : Int) - 2).toNat % (p : Int)) else (y2 - y1) * (((x2 - x1) % (p : Int)) ^ ((p : Int) - 2).toNat % (p : Int))) = m at em ⊢
      refine ⟨⟨red_mod _, red_mod _⟩, ?_⟩
      show some (fc p ((m * m - x1 - x2) % (p : Int)), fc p ((m * (x1 - (m * m - x1 - x2) % (p : Int)) - y1) % (p : Int))) = padd finv (fc p A) (some (fc p x1, fc p y1)) (some (fc p x2, fc p y2))
      dsimp only [padd]
      rw [if_neg h0', ← em]
      simp only [fc_mod, fc_sub, fc_mul]
theorem ltI_ok (hp : Prm p) {A : Int} (C : Cv finv (fc p A) b) : ∀ (n : Nat) {S T : Option (Int × Int)}, RedP p S → RedP p T → On (fc p A) b (toF p S) → On (fc p A) b (toF p T) →
    RedP p (ltI p A n S T) ∧ toF p (ltI p A n S T) = padd finv (fc p A) (toF p S) (psm finv (fc p A) n (toF p T)) := by
  intro n
  induction n using Nat.strongRecOn with
  | ind n ih =>
    intro S T hS hT oS oT
    rw [ltI]
    by_cases h0 : n = 0
    · rw [if_pos h0, h0]
      exact ⟨hS, (padd_none_r _).symm⟩
    · rw [if_neg h0]
      obtain ⟨r1, e1⟩ := lsumI_ok hp C hT hT oT oT
      have o1 : On (fc p A) b (toF p (lsumI p A T T)) := by rw [e1]; exact padd_on C oT oT
      have hdbl : psm finv (fc p A) (n / 2) (padd finv (fc p A) (toF p T) (toF p T)) = psm finv (fc p A) (2 * (n / 2)) (toF p T) := by
        rw [psm_mul C oT]; rfl
      by_cases h2 : n % 2 = 1
      · rw [if_pos h2]
        obtain ⟨r2, e2⟩ := lsumI_ok hp C hS hT oS oT
        have o2 : On (fc p A) b (toF p (lsumI p A S T)) := by rw [e2]; exact padd_on C oS oT
        obtain ⟨r3, e3⟩ := ih (n / 2) (by omega) r2 r1 o2 o1
        refine ⟨r3, ?_⟩
        rw [e3, e2, e1, hdbl, padd_assoc C oS oT (psm_on C oT _)]
        have e4 : n = 1 + 2 * (n / 2) := by omega
        have e5 : psm finv (fc p A) n (toF p T) = psm finv (fc p A) (1 + 2 * (n / 2)) (toF p T) := by rw [← e4]
        rw [e5, psm_add C oT]; rfl
      · rw [if_neg h2]
        obtain ⟨r3, e3⟩ := ih (n / 2) (by omega) hS r1 oS o1
        refine ⟨r3, ?_⟩
        rw [e3, e1, hdbl, show 2 * (n / 2) = n by omega]
end

def flatI : Option (Int × Int) → Int × Int
  | none => (0, 0)
  | some r => r
/-- the first law's own recovery -/
def lrec (P N A B Gx Gy z v r s : Int) : Option (Int × Int) :=
  let c := (r * r * r + A * r + B) % P
  let y := c ^ ((P + 1) / 4).toNat % P
  if v < 27 ∨ v > 28 ∨ y * y % P ≠ c ∨ r % N = 0 ∨ s % N = 0 then none else
    let y' := if (y + v) % 2 = 0 then P - y else y
    let part := r ^ (N - 2).toNat % N
    some (flatI (lsumI P A (ltI P A (s * part % N).toNat none (some (r, y'))) (ltI P A ((0 - z * part) % N).toNat none (some (Gx, Gy)))))
section
variable {p : Nat} [NeZero p]
theorem flat_toF {S : Option (Int × Int)} (h : RedP p S) : flatP (toF p S) = flatI S := by
  match S, h with
  | none, _ => rfl
  | some (x, y), h =>
    show (((fc p x).val : Int), ((fc p y).val : Int)) = (x, y)
    rw [fc_val, fc_val, Int.emod_eq_of_lt h.1.1 h.1.2, Int.emod_eq_of_lt h.2.1 h.2.2]
theorem inv_uniq {N : Nat} [NeZero N] (hN : Prm N) {x u w : Fin N} (hx : x ≠ 0) (hu : u * x = 1) (hw : x * w = 1) : u = w := by
  have e : u * x * w = u * (x * w) := by clear hu hw; grind
  rw [hu, hw] at e
  clear hu hw; grind
/-- what a curve of the law brings -/
structure Crv (p N : Nat) [NeZero p] [NeZero N] (A B Gx Gy : Int) : Prop where
  hp : Prm p
  hN : Prm N
  C : Cv finv (fc p A) (fc p B)
  T : Tor finv (fc p A) (fc p B) N
  G : On (fc p A) (fc p B) (some (fc p Gx, fc p Gy))
  rx : Red p Gx
  ry : Red p Gy
variable {N : Nat} [NeZero N] {A B Gx Gy : Int}
theorem ltI_zsm (K : Crv p N A B Gx Gy) {x y : Int} (hx : Red p x) (hy : Red p y) (hP : On (fc p A) (fc p B) (some (fc p x, fc p y))) (k : Int) :
    RedP p (ltI p A (k % (N : Int)).toNat none (some (x, y))) ∧ toF p (ltI p A (k % (N : Int)).toNat none (some (x, y))) = zsm finv (fc p A) N k (some (fc p x, fc p y)) := by
  have h := ltI_ok K.hp K.C (k % (N : Int)).toNat (S := none) (T := some (x, y)) trivial ⟨hx, hy⟩ trivial hP
  exact ⟨h.1, h.2⟩
theorem ybeta_sq (K : Crv p N A B Gx Gy) {v r : Int} : fc p (ybeta p A B v r) * fc p (ybeta p A B v r) = fc p (((r * r * r + A * r + B) % (p : Int)) ^ (((p : Int) + 1) / 4).toNat % (p : Int)) * fc p (((r * r * r + A * r + B) % (p : Int)) ^ (((p : Int) + 1) / 4).toNat % (p : Int)) := by
  have _ := K.hp
  unfold ybeta
  dsimp only
  split
  · rw [fc_sub]
    have e : fc p (p : Int) = 0 := by rw [← fc_zero (p := p), fc_eq, Int.emod_self, Int.zero_emod]
    rw [e]; clear e; grind
  · rfl
theorem on_of_sq {x y : Int} (h : ((x * x * x + A * x + B) % (p : Int) - y * y) % (p : Int) = 0) : On (fc p A) (fc p B) (some (fc p x, fc p y)) := by
  have e : fc p ((x * x * x + A * x + B) % (p : Int) - y * y) = 0 := by rw [← fc_zero (p := p), fc_eq, h, Int.zero_emod]
  rw [fc_sub, fc_mod, fc_add, fc_add, fc_mul, fc_mul, fc_mul, fc_mul] at e
  show fc p y * fc p y = fc p x * fc p x * fc p x + fc p A * fc p x + fc p B
  exact (lin3 e).symm
theorem sq_iff (K : Crv p N A B Gx Gy) {v r : Int} :
    ((r * r * r + A * r + B) % (p : Int) - ybeta p A B v r * ybeta p A B v r) % (p : Int) ≠ 0 ↔
      (((r * r * r + A * r + B) % (p : Int)) ^ (((p : Int) + 1) / 4).toNat % (p : Int)) * (((r * r * r + A * r + B) % (p : Int)) ^ (((p : Int) + 1) / 4).toNat % (p : Int)) % (p : Int) ≠ (r * r * r + A * r + B) % (p : Int) := by
  have h := ybeta_sq K (v := v) (r := r)
  have e1 : ((r * r * r + A * r + B) % (p : Int) - ybeta p A B v r * ybeta p A B v r) % (p : Int) = 0 ↔ fc p (r * r * r + A * r + B) = fc p (ybeta p A B v r) * fc p (ybeta p A B v r) := by
    rw [← fc_mul, fc_eq, Int.emod_eq_emod_iff_emod_sub_eq_zero, Int.emod_sub_emod]
  have e2 : (((r * r * r + A * r + B) % (p : Int)) ^ (((p : Int) + 1) / 4).toNat % (p : Int)) * (((r * r * r + A * r + B) % (p : Int)) ^ (((p : Int) + 1) / 4).toNat % (p : Int)) % (p : Int) = (r * r * r + A * r + B) % (p : Int) ↔ fc p (r * r * r + A * r + B) = fc p (ybeta p A B v r) * fc p (ybeta p A B v r) := by
    rw [h, ← fc_mul, fc_eq]
    exact eq_comm
  rw [Ne, Ne, e1, e2]
end

section
variable {p : Nat} [NeZero p] {N : Nat} [NeZero N] {A B Gx Gy : Int}
theorem ybeta_red (K : Crv p N A B Gx Gy) {v r : Int} (h : On (fc p A) (fc p B) (some (fc p r, fc p (ybeta p A B v r)))) : Red p (ybeta p A B v r) := by
  have hne := on_yne K.C h
  have hr := red_mod (p := p) (((r * r * r + A * r + B) % (p : Int)) ^ (((p : Int) + 1) / 4).toNat)
  unfold ybeta at hne ⊢
  dsimp only at hne ⊢
  generalize (((r * r * r + A * r + B) % (p : Int)) ^ (((p : Int) + 1) / 4).toNat) % (p : Int) = w at *
  by_cases hc : v % 2 = w % 2
  · rw [if_pos hc] at hne ⊢
    have hw : w ≠ 0 := by
      intro e
      apply hne
      rw [e, Int.sub_zero, ← fc_zero (p := p), fc_eq, Int.emod_self, Int.zero_emod]
    exact ⟨by have := hr.2; omega, by have := hr.1; omega⟩
  · rw [if_neg hc]
    exact hr
theorem zsm_fc {F : Type} [Lean.Grind.CommRing F] [DecidableEq F] {inv : F → F} {a : F} {k j : Int} (h : fc N k = fc N j) (P : Pt F) : zsm inv a N k P = zsm inv a N j P := zsm_congr (fc_eq.mp h) P
theorem fc_pinv (K : Crv p N A B Gx Gy) {r : Int} (hr : fc N r ≠ 0) : fc N (pinv r N) = finv (fc N r) :=
  inv_uniq K.hN hr (pinv_spec K.hN hr) (fin_inv K.hN _ hr)
/-- the place that the project's recovery reckons -/
theorem precover_point (K : Crv p N A B Gx Gy) {z r y s : Int} (hy : Red p y) (hP : On (fc p A) (fc p B) (some (fc p r, fc p y))) :
    fromJ p (jmul p N A (jadd p A (jmul p N A (Gx, Gy, 1) (((N : Int) - z) % N)) (jmul p N A (r, y, 1) s)) (pinv r N)) =
      flatP (padd finv (fc p A) (zsm finv (fc p A) N (s * pinv r N) (some (fc p r, fc p y))) (zsm finv (fc p A) N (-z * pinv r N) (some (fc p Gx, fc p Gy)))) := by
  have hp := K.hp
  have hN0 : 0 < N := Nat.lt_trans (by decide) K.hN.1
  have r1 := rep_mul hp K.C (N := N) K.G (rep_affine hp K.ry) (((N : Int) - z) % N)
  have r2 := rep_mul hp K.C (N := N) hP (rep_affine hp hy) s
  have o1 := zsm_on K.C (N := N) K.G (((N : Int) - z) % N)
  have o2 := zsm_on K.C (N := N) hP s
  have r3 := rep_add hp K.C o1 o2 r1 r2
  have r4 := rep_mul hp K.C (N := N) (padd_on K.C o1 o2) r3 (pinv r N)
  rw [fromJ_rep hp r4, zsm_padd K.C o1 o2, ← zsm_mul K.C hN0 K.T K.G, ← zsm_mul K.C hN0 K.T hP, padd_comm K.C (zsm_on K.C K.G _) (zsm_on K.C hP _)]
  have e : fc N ((((N : Int) - z) % N) * pinv r N) = fc N (-z * pinv r N) := by
    rw [fc_mul, fc_mod, fc_sub, fc_mul, fc_neg]
    have e : fc N (N : Int) = 0 := by rw [← fc_zero (p := N), fc_eq, Int.emod_self, Int.zero_emod]
    rw [e]
    clear e; grind
  rw [zsm_fc e]
theorem recover_eq (K : Crv p N A B Gx Gy) {z v r s : Int} (hr : Red p r) : precover p N A B Gx Gy z v r s = lrec p N A B Gx Gy z v r s := by
  have hsq := sq_iff K (v := v) (r := r)
  unfold precover lrec
  dsimp only
  by_cases hv : v = 27 ∨ v = 28
  · rw [if_neg (by omega)]
    by_cases hb : recBad p N A B v r s = true
    · rw [if_pos hb, if_pos]
      rcases of_decide_eq_true hb with k | k | k
      · exact .inr (.inr (.inl (hsq.mp k)))
      · exact .inr (.inr (.inr (.inl k)))
      · exact .inr (.inr (.inr (.inr k)))
    · rw [if_neg hb]
      have hb' : ¬ (((r * r * r + A * r + B) % (p : Int) - ybeta p A B v r * ybeta p A B v r) % (p : Int) ≠ 0 ∨ r % (N : Int) = 0 ∨ s % (N : Int) = 0) := fun k => hb (decide_eq_true k)
      rw [if_neg (by
        rintro (k | k | k | k | k)
        · omega
        · omega
        · exact hb' (.inl (hsq.mpr k))
        · exact hb' (.inr (.inl k))
        · exact hb' (.inr (.inr k)))]
      have h1 : ((r * r * r + A * r + B) % (p : Int) - ybeta p A B v r * ybeta p A B v r) % (p : Int) = 0 := Decidable.not_not.mp fun k => hb' (.inl k)
      have hP := on_of_sq h1
      have hy := ybeta_red K hP
      have hrN : fc N r ≠ 0 := by
        intro e
        rw [← fc_zero (p := N), fc_eq, Int.zero_emod] at e
        exact hb' (.inr (.inl e))
      rw [precover_point K hy hP]
      have ey : (if ((((r * r * r + A * r + B) % (p : Int)) ^ (((p : Int) + 1) / 4).toNat) % (p : Int) + v) % 2 = 0 then (p : Int) - (((r * r * r + A * r + B) % (p : Int)) ^ (((p : Int) + 1) / 4).toNat) % (p : Int) else (((r * r * r + A * r + B) % (p : Int)) ^ (((p : Int) + 1) / 4).toNat) % (p : Int)) = ybeta p A B v r := by
        unfold ybeta
        dsimp only
        generalize (((r * r * r + A * r + B) % (p : Int)) ^ (((p : Int) + 1) / 4).toNat) % (p : Int) = w
        by_cases hc : v % 2 = w % 2
        · rw [if_pos hc, if_pos (by omega)]
        · rw [if_neg hc, if_neg (by omega)]
      rw [ey]
      have l1 := ltI_zsm K hr hy hP (s * (r ^ ((N : Int) - 2).toNat % (N : Int)))
      have l2 := ltI_zsm K K.rx K.ry K.G (0 - z * (r ^ ((N : Int) - 2).toNat % (N : Int)))
      have l3 := lsumI_ok K.hp K.C l1.1 l2.1 (by rw [l1.2]; exact zsm_on K.C hP _) (by rw [l2.2]; exact zsm_on K.C K.G _)
      rw [← flat_toF l3.1, l3.2, l1.2, l2.2]
      have ep : fc N (r ^ ((N : Int) - 2).toNat % (N : Int)) = fc N (pinv r N) := by
        rw [fc_pinv K hrN, ← fc_inv K.hN, fc_mod, fc_mod, fc_pow, fc_pow, fc_mod]
      rw [zsm_fc (k := s * (r ^ ((N : Int) - 2).toNat % (N : Int))) (j := s * pinv r N) (by rw [fc_mul, fc_mul, ep])]
      rw [zsm_fc (k := 0 - z * (r ^ ((N : Int) - 2).toNat % (N : Int))) (j := -z * pinv r N) (by
        rw [fc_sub, fc_zero, fc_mul, fc_mul, fc_neg, ep]; clear l1 l2 l3 ep ey hsq hb hb' h1; grind)]
  · rw [if_pos hv, if_pos (by omega)]
end

section
variable {p : Nat} [NeZero p] {N : Nat} [NeZero N] {A B Gx Gy : Int}
theorem fcN_zero_iff {x : Int} : fc N x = 0 ↔ x % (N : Int) = 0 := by rw [← fc_zero (p := N), fc_eq, Int.zero_emod]
theorem zsm_ne (K : Crv p N A B Gx Gy) {k : Int} (hk : k % (N : Int) ≠ 0) : zsm finv (fc p A) N k (some (fc p Gx, fc p Gy)) ≠ none := by
  intro h
  have hd := order_dvd K.C K.hN K.G (fun e => nomatch e) (K.T _ K.G) h
  have h0 := Int.emod_nonneg k (show (N : Int) ≠ 0 by have := npos (p := N); omega)
  have h1 := Int.emod_lt_of_pos k (npos (p := N))
  have := Nat.le_of_dvd (by omega) hd
  omega
/-- the signature, s with the sign that the lower half asks -/
theorem psign_eq (K : Crv p N A B Gx Gy) (hodd : N % 2 = 1) {z d k x y i s0 : Int} (hR : pmul p N A Gx Gy k = (x, y)) (hi : fc N i = fc N (pinv k N)) (hs : i * (z + x * d) % (N : Int) = s0) :
    psign p N A Gx Gy z d k = if 2 * s0 ≥ (N : Int) then (55 - (27 + y % 2), x, (N : Int) - s0) else (27 + y % 2, x, s0) := by
  have e : pinv k N * (z + x * d) % (N : Int) = s0 := by
    rw [← hs, ← fc_eq, fc_mul, fc_mul, hi]
  unfold psign
  rw [hR]
  dsimp only
  rw [e]
  by_cases h : s0 * 2 < (N : Int)
  · rw [if_pos h, if_neg (by omega)]
  · rw [if_neg h, if_pos (by omega)]
    have : 27 + (1 - y % 2) = 55 - (27 + y % 2) := by omega
    rw [this]
theorem beta_sq (K : Crv p N A B Gx Gy) (h4 : p % 4 = 3) {x y : Int} (hP : On (fc p A) (fc p B) (some (fc p x, fc p y))) :
    fc p (((x * x * x + A * x + B) % (p : Int)) ^ (((p : Int) + 1) / 4).toNat % (p : Int)) * fc p (((x * x * x + A * x + B) % (p : Int)) ^ (((p : Int) + 1) / 4).toNat % (p : Int)) = fc p y * fc p y := by
  have hy := on_yne K.C hP
  have hc : fc p ((x * x * x + A * x + B) % (p : Int)) = fc p y * fc p y := by
    rw [fc_mod, fc_add, fc_add, fc_mul, fc_mul, fc_mul]
    exact (show fc p y * fc p y = fc p x * fc p x * fc p x + fc p A * fc p x + fc p B from hP).symm
  rw [fc_mod, fc_pow, hc]
  have hf := fin_fermat K.hp _ hy
  have e1 : (((p : Int) + 1) / 4).toNat = (p + 1) / 4 := by omega
  rw [e1]
  have e2 : (fc p y * fc p y) ^ ((p + 1) / 4) * (fc p y * fc p y) ^ ((p + 1) / 4) = (fc p y) ^ (p - 1) * (fc p y * fc p y) := by
    have q : ∀ n : Nat, (fc p y * fc p y) ^ n * (fc p y * fc p y) ^ n = (fc p y) ^ (4 * n) := by
      intro n
      induction n with
      | zero => show (fc p y * fc p y) ^ 0 * (fc p y * fc p y) ^ 0 = fc p y ^ 0; clear hf hc e1 hP; grind
      | succ n ih =>
        have e3 : (fc p y * fc p y) ^ (n + 1) * (fc p y * fc p y) ^ (n + 1) = ((fc p y * fc p y) ^ n * (fc p y * fc p y) ^ n) * (fc p y * fc p y * fc p y * fc p y) := by clear hf hc e1 hP ih; grind
        have e4 : fc p y ^ (4 * (n + 1)) = fc p y ^ (4 * n) * (fc p y * fc p y * fc p y * fc p y) := by
          rw [show 4 * (n + 1) = 4 * n + 4 by omega]; clear hf hc e1 hP ih e3; grind
        rw [e3, ih, e4]
    rw [q, show 4 * ((p + 1) / 4) = (p - 1) + 2 by omega]
    clear hf hc e1 hP q; grind
  rw [e2, hf]
  clear hf hc e1 hP e2; grind
/-- the y that recovery takes is the one of the parity told -/
theorem ybeta_is (K : Crv p N A B Gx Gy) (h4 : p % 4 = 3) {v x y : Int} (hy : Red p y) (hP : On (fc p A) (fc p B) (some (fc p x, fc p y))) :
    (v % 2 = 1 - y % 2 → ybeta p A B v x = y) ∧ (v % 2 = y % 2 → ybeta p A B v x = (p : Int) - y) := by
  have hb := beta_sq K h4 hP
  have hyn := on_yne K.C hP
  have hr := red_mod (p := p) (((x * x * x + A * x + B) % (p : Int)) ^ (((p : Int) + 1) / 4).toNat)
  unfold ybeta
  dsimp only
  generalize (((x * x * x + A * x + B) % (p : Int)) ^ (((p : Int) + 1) / 4).toNat) % (p : Int) = w at *
  have hy0 : y ≠ 0 := fun e => hyn (by rw [e, fc_zero])
  have hw : w = y ∨ w = (p : Int) - y := by
    have q : (fc p w - fc p y) * (fc p w + fc p y) = 0 := by clear hr hyn; grind
    rcases fin_dom K.hp _ _ q with k | k
    · exact .inl (red_inj hr hy (lin3 k))
    · right
      refine red_inj hr ⟨by have := hy.2; omega, by have := hy.1; omega⟩ ?_
      have e : fc p (p : Int) = 0 := by rw [← fc_zero (p := p), fc_eq, Int.emod_self, Int.zero_emod]
      rw [fc_sub, e]
      clear hb q hr hyn e; grind
  have hp2 : (p : Int) % 2 = 1 := by omega
  rcases hw with e | e
  · subst e
    constructor
    · intro h; rw [if_neg (by omega)]
    · intro h; rw [if_pos (by omega)]
  · subst e
    constructor
    · intro h; rw [if_pos (by omega)]; omega
    · intro h; rw [if_neg (by omega)]
/-- recovery of a signature just made -/
theorem recover_sign (K : Crv p N A B Gx Gy) (h4 : p % 4 = 3) {z d k x y i s0 v s : Int} (hk : k % (N : Int) ≠ 0) (hR : pmul p N A Gx Gy k = (x, y)) (hi : fc N i = fc N (pinv k N)) (hs : i * (z + x * d) % (N : Int) = s0)
    (hvs : (v = 27 + y % 2 ∧ s = s0) ∨ (v = 55 - (27 + y % 2) ∧ s = (N : Int) - s0)) :
    precover p N A B Gx Gy z v x s = if x % (N : Int) = 0 ∨ s % (N : Int) = 0 then none else some (flatP (zsm finv (fc p A) N d (some (fc p Gx, fc p Gy)))) := by
  have hN0 : 0 < N := Nat.lt_trans (by decide) K.hN.1
  rw [pmul_spec K.hp K.C K.ry K.G k] at hR
  have hne := zsm_ne K hk
  have hon := zsm_on K.C (N := N) K.G k
  obtain ⟨X, Y, hXY⟩ : ∃ X Y, zsm finv (fc p A) N k (some (fc p Gx, fc p Gy)) = some (X, Y) := by
    match h : zsm finv (fc p A) N k (some (fc p Gx, fc p Gy)) with
    | none => exact absurd h hne
    | some (X, Y) => exact ⟨X, Y, rfl⟩
  rw [hXY] at hR hon
  have hx : (X.val : Int) = x := congrArg Prod.fst hR
  have hy : (Y.val : Int) = y := congrArg Prod.snd hR
  have fx : X = fc p x := by rw [← hx, fc_of_val]
  have fy : Y = fc p y := by rw [← hy, fc_of_val]
  have rx : Red p x := ⟨by omega, by have := X.isLt; omega⟩
  have ry : Red p y := ⟨by omega, by have := Y.isLt; omega⟩
  rw [fx, fy] at hon hXY
  have hb := ybeta_is K h4 (v := v) ry hon
  have hv : v = 27 ∨ v = 28 := by omega
  have hcase : (ybeta p A B v x = y ∧ s = s0) ∨ (ybeta p A B v x = (p : Int) - y ∧ s = (N : Int) - s0) := by
    rcases hvs with ⟨e1, e2⟩ | ⟨e1, e2⟩
    · exact .inl ⟨hb.1 (by omega), e2⟩
    · exact .inr ⟨hb.2 (by omega), e2⟩
  have hsq : ((x * x * x + A * x + B) % (p : Int) - ybeta p A B v x * ybeta p A B v x) % (p : Int) = 0 := by
    have e : fc p ((x * x * x + A * x + B) % (p : Int) - ybeta p A B v x * ybeta p A B v x) = 0 := by
      rw [fc_sub, fc_mod, fc_add, fc_add, fc_mul, fc_mul, fc_mul, fc_mul, ybeta_sq K, beta_sq K h4 hon]
      have h9 : fc p y * fc p y = fc p x * fc p x * fc p x + fc p A * fc p x + fc p B := hon
      rw [h9]
      clear hb hon h9 hXY fx fy; grind
    exact fcN_zero_iff.mp e
  unfold precover
  rw [if_neg (by omega)]
  by_cases hz : x % (N : Int) = 0 ∨ s % (N : Int) = 0
  · rw [if_pos hz, if_pos (show recBad p N A B v x s = true from decide_eq_true (.inr hz))]
  · rw [if_neg hz, if_neg (show ¬ recBad p N A B v x s = true from fun k => (of_decide_eq_true k).elim (fun q => q hsq) hz)]
    have hP := on_of_sq hsq
    rw [precover_point K (ybeta_red K hP) hP]
    have hxN : fc N x ≠ 0 := fun e => hz (.inl (fcN_zero_iff.mp e))
    have hkN : fc N k ≠ 0 := fun e => hk (fcN_zero_iff.mp e)
    have i1 := pinv_spec K.hN hxN
    have i2 := pinv_spec K.hN hkN
    have es0 : fc N s0 = fc N (pinv k N) * (fc N z + fc N x * fc N d) := by
      rw [← hs, fc_mod, fc_mul, fc_add, fc_mul, hi]
    have eN : fc N (N : Int) = 0 := by rw [← fc_zero (p := N), fc_eq, Int.emod_self, Int.zero_emod]
    have ep : fc p (p : Int) = 0 := by rw [← fc_zero (p := p), fc_eq, Int.emod_self, Int.zero_emod]
    have fin : ∀ t : Int, fc N t = fc N k * (fc N s0 * fc N (pinv x N)) → padd finv (fc p A) (zsm finv (fc p A) N t (some (fc p Gx, fc p Gy))) (zsm finv (fc p A) N (-z * pinv x N) (some (fc p Gx, fc p Gy))) = zsm finv (fc p A) N d (some (fc p Gx, fc p Gy)) := by
      intro t ht
      rw [← zsm_add K.C hN0 K.T K.G]
      refine zsm_fc ?_ _
      rw [fc_add, ht, fc_mul, fc_neg, es0]
      have e : fc N k * (fc N (pinv k N) * (fc N z + fc N x * fc N d) * fc N (pinv x N)) + -fc N z * fc N (pinv x N) = (fc N (pinv k N) * fc N k) * (fc N z * fc N (pinv x N) + (fc N (pinv x N) * fc N x) * fc N d) - fc N z * fc N (pinv x N) := by
        clear hb hon hXY fx fy es0 i1 i2 eN ep ht hsq hP; grind
      rw [e, i1, i2]
      clear hb hon hXY fx fy es0 i1 i2 eN ep ht hsq hP e; grind
    rcases hcase with ⟨e1, e2⟩ | ⟨e1, e2⟩
    · rw [e1, e2, ← hXY, ← zsm_mul K.C hN0 K.T K.G, fin]
      rw [fc_mul, fc_mul]
    · have e3 : (some (fc p x, fc p ((p : Int) - y)) : Pt (Fin p)) = zsm finv (fc p A) N (-k) (some (fc p Gx, fc p Gy)) := by
        rw [zsm_neg K.C hN0 K.T K.G, hXY, fc_sub, ep]
        show _ = some (fc p x, -fc p y)
        have : (0 : Fin p) - fc p y = -fc p y := by clear hb hon hXY fx fy es0 i1 i2 eN ep hsq hP fin; grind
        rw [this]
      rw [e1, e2, e3, ← zsm_mul K.C hN0 K.T K.G, fin]
      rw [fc_mul, fc_mul, fc_neg, fc_sub, eN]
      clear hb hon hXY fx fy es0 i1 i2 ep hsq hP fin e3; grind
end

def chk (f : Nat → Bool) : Nat → Nat → Bool
  | 0, lo => f lo
  | k + 1, lo => chk f k lo && chk f k (lo + 2 ^ k)
theorem chk_all {f : Nat → Bool} : ∀ (k lo : Nat), chk f k lo = true → ∀ n, lo ≤ n → n < lo + 2 ^ k → f n = true
  | 0, lo, h, n, h1, h2 => by
    have : n = lo := by simp at h2; omega
    rw [this]; exact h
  | k + 1, lo, h, n, h1, h2 => by
    have h' := Bool.and_eq_true_iff.mp h
    rw [Nat.pow_succ] at h2
    by_cases hn : n < lo + 2 ^ k
    · exact chk_all k lo h'.1 n h1 hn
    · exact chk_all k (lo + 2 ^ k) h'.2 n (by omega) (by omega)
def prmC (p k : Nat) : Bool := decide (1 < p) && decide (p < 2 ^ k * 2 ^ k) && chk (fun d => decide (d < 2) || p % d != 0 || decide (d = p)) k 0
theorem prm_of {p k : Nat} (h : prmC p k = true) : Prm p := by
  unfold prmC at h
  rw [Bool.and_eq_true, Bool.and_eq_true] at h
  obtain ⟨⟨h1, h2⟩, h3⟩ := h
  have h1 := of_decide_eq_true h1
  have h2 := of_decide_eq_true h2
  have small : ∀ d, d ∣ p → d < 2 ^ k → d = 1 ∨ d = p := by
    intro d hd hk
    have := chk_all k 0 h3 d (Nat.zero_le _) (by omega)
    simp only [Bool.or_eq_true, decide_eq_true_eq, bne_iff_ne, ne_eq] at this
    rcases this with (h | h) | h
    · left
      have : d ≠ 0 := fun e => by rw [e] at hd; have := Nat.eq_zero_of_zero_dvd hd; omega
      omega
    · exact absurd (Nat.mod_eq_zero_of_dvd hd) h
    · exact .inr h
  refine ⟨h1, fun d hd => ?_⟩
  by_cases hk : d < 2 ^ k
  · exact small d hd hk
  · obtain ⟨e, he⟩ := hd
    have hek : e < 2 ^ k := by
      by_cases hc : e < 2 ^ k
      · exact hc
      · have : 2 ^ k * 2 ^ k ≤ d * e := Nat.mul_le_mul (by omega) (by omega)
        omega
    rcases small e ⟨d, by rw [he, Nat.mul_comm]⟩ hek with h | h
    · right; rw [he, h, Nat.mul_one]
    · left
      have hp0 : 0 < p := by omega
      have : d * p = 1 * p := by rw [Nat.one_mul]; rw [h] at he; exact he.symm
      exact Nat.eq_of_mul_eq_mul_right hp0 this
def rootL (p a b x : Nat) : Bool := or (Nat.ble p x) (Nat.ble 1 (Nat.mod (Nat.add (Nat.mul x (Nat.add (Nat.mul x x) a)) b) p))
def rootK (p a b : Nat) : Nat → Nat → Bool
  | 0, lo => rootL p a b lo
  | k + 1, lo => and (rootK p a b k lo) (rootK p a b k (Nat.add lo (Nat.pow 2 k)))
theorem rootK_eq {p a b : Nat} : ∀ k lo, rootK p a b k lo = chk (rootL p a b) k lo
  | 0, _ => rfl
  | k + 1, lo => by
    show and (rootK p a b k lo) (rootK p a b k (lo + 2 ^ k)) = and (chk _ k lo) (chk _ k (lo + 2 ^ k))
    rw [rootK_eq k, rootK_eq k]
def rootC (p a b k : Nat) : Bool := and (Nat.ble p (Nat.pow 2 k)) (rootK p a b k 0)
theorem root_of {p a b k : Nat} [NeZero p] (h : rootC p a b k = true) (x : Fin p) : x * x * x + fc p (a : Int) * x + fc p (b : Int) ≠ 0 := by
  unfold rootC at h
  obtain ⟨h1, h2⟩ := Bool.and_eq_true_iff.mp h
  have h1 : p ≤ 2 ^ k := Nat.le_of_ble_eq_true h1
  rw [rootK_eq] at h2
  have := chk_all k 0 h2 x.val (Nat.zero_le _) (by have := x.isLt; omega)
  unfold rootL at this
  have h3 : 1 ≤ (x.val * (x.val * x.val + a) + b) % p := by
    rcases Bool.or_eq_true_iff.mp this with k | k
    · have k' : p ≤ x.val := Nat.le_of_ble_eq_true k
      have := x.isLt
      omega
    · exact Nat.le_of_ble_eq_true k
  intro e
  have e2 : fc p ((x.val : Int) * ((x.val : Int) * x.val + (a : Int)) + (b : Int)) = 0 := by
    rw [fc_add, fc_mul, fc_add, fc_mul, fc_of_val, ← e]
    clear h h1 h2 h3 e this; grind
  rw [← fc_zero (p := p), fc_eq, Int.zero_emod] at e2
  have e3 : (((x.val * (x.val * x.val + a) + b) % p : Nat) : Int) = 0 := by
    rw [Int.natCast_emod]
    simpa using e2
  omega
def jmF (P A : Int) (a : Tri) : Nat → Nat → Tri
  | 0, _ => (0, 0, 1)
  | f + 1, n => if n = 0 then (0, 0, 1) else if n = 1 then a else
    if n % 2 = 0 then jdbl P A (jmF P A a f (n / 2)) else jadd P A (jdbl P A (jmF P A a f (n / 2))) a
theorem jmF_eq {P A : Int} {a : Tri} : ∀ (f n : Nat), n < 2 ^ f → jmF P A a f n = jmulN P A a n
  | 0, n, h => by
    have : n = 0 := by simpa using h
    rw [this, jmulN]; rfl
  | f + 1, n, h => by
    rw [jmF, jmulN]
    rw [Nat.pow_succ] at h
    have := jmF_eq (P := P) (A := A) (a := a) f (n / 2) (by omega)
    rw [this]
/-- the cheap checks of a curve: primes, the base on it, its order, the bound -/
def crvC (p N a b gx gy : Nat) : Bool :=
  prmC p 8 && prmC N 8 && decide ((jmF (p : Int) (a : Int) ((gx : Int), (gy : Int), 1) 17 N).2.1 = 0) && decide (N < 2 ^ 17) &&
  decide ((gx * gx * gx + a * gx + b) % p = gy * gy % p) && decide (gx < p) && decide (gy < p) && decide (2 * p + 1 < 3 * N) && decide (p ≠ 2)
theorem crv_of {p N a b gx gy k : Nat} [NeZero p] [NeZero N] (h : crvC p N a b gx gy = true) (hr : rootC p a b k = true) : Crv p N (a : Int) (b : Int) (gx : Int) (gy : Int) := by
  unfold crvC at h
  simp only [Bool.and_eq_true, decide_eq_true_eq] at h
  obtain ⟨⟨⟨⟨⟨⟨⟨⟨h1, h2⟩, h3⟩, h4⟩, h5⟩, h6⟩, h7⟩, h8⟩, h9⟩ := h
  have hp := prm_of h1
  have hN := prm_of h2
  have C := cv_of hp h9 (root_of hr)
  have rx : Red p (gx : Int) := ⟨by omega, by omega⟩
  have ry : Red p (gy : Int) := ⟨by omega, by omega⟩
  have G : On (fc p (a : Int)) (fc p (b : Int)) (some (fc p (gx : Int), fc p (gy : Int))) := by
    show fc p (gy : Int) * fc p (gy : Int) = _
    have e : fc p ((gx : Int) * gx * gx + (a : Int) * gx + (b : Int)) = fc p ((gy : Int) * gy) := by
      rw [fc_eq]
      have q1 : (((gx * gx * gx + a * gx + b : Nat) % p : Nat) : Int) = ((gy * gy % p : Nat) : Int) := by rw [h5]
      rw [Int.natCast_emod, Int.natCast_emod] at q1
      simpa using q1
    rw [fc_add, fc_add, fc_mul, fc_mul, fc_mul, fc_mul] at e
    exact e.symm
  have hord : psm finv (fc p (a : Int)) N (some (fc p (gx : Int), fc p (gy : Int))) = none := by
    have hrep := rep_mulN hp C G (rep_affine hp ry) N
    refine (rep_y0 hp (psm_on C G N) C hrep).mp ?_
    rw [← jmF_eq 17 N h4]
    exact h3
  exact ⟨hp, hN, C, tor_of_order hp C hN G (fun e => nomatch e) hord h8, G, rx, ry⟩

end Mine
open PySem PySem.W PyProof.Rows PySem.Calls PySem.Spec
namespace Mine
set_option synthInstance.maxSize 1 in
open_top hd for PySem.Challenge.rw_iv0042_01
local macro_rules | `(tactic| walk_at $s:str) => `(tactic| k_extra $s)
local macro_rules | `(tactic| k_mem) => `(tactic| ((repeat (first | with_reducible exact List.mem_cons_self | with_reducible assumption | with_reducible refine List.mem_cons_of_mem _ ?_ | with_reducible refine List.mem_append_right _ ?_)); done))
local macro_rules | `(tactic| kcj_all) => `(tactic| ((intro p hp); (repeat (first | with_reducible exact hp | with_reducible refine List.mem_cons_of_mem _ ?_ | with_reducible refine List.mem_append_right _ ?_)); done))
section
abbrev Led := List (Addr × Obj)
abbrev tup2 (x y : Int) (t1 t2 : Tok) (c : Nat) : Obj := { cls := .type "tuple", data := .seq #[.int x t1, .int y t2] c }
abbrev tup3 (x y z : Int) (t1 t2 t3 : Tok) (c : Nat) : Obj := { cls := .type "tuple", data := .seq #[.int x t1, .int y t2, .int z t3] c }
abbrev tup6 (P N A B Gx Gy : Int) (t1 t2 t3 t4 t5 t6 : Tok) (c : Nat) : Obj := { cls := .type "tuple", data := .seq #[.int P t1, .int N t2, .int A t3, .int B t4, .int Gx t5, .int Gy t6] c }

/-- a small number: 0 ≤ x < 2^20 -/
abbrev Sm (x : Int) : Prop := 0 ≤ x ∧ x < 2 ^ 20

/-- the call of the def at f gives a value and some made objects, told by out -/
def CallOk (w : World) (mean : ExcName → Option Value) (mg mb : Str → Option Value) (f : Addr) (sz : Nat) (vs : List Value) (news : Led) (out : Value → Led → Prop) : Prop :=
  ∀ (dp un : Nat) (gd : Option (List Code)) (cn : Str) (cs : Scope) (a : Addr) (ccd : Value) (cl : List (Str × Addr)) (outer : List Env) (A₀ : Around) (base h₀ : Heap) (L : Addr) (m : Str → Option Value) (s : Shared) (Q E : Value → Shared → Prop),
    Below A₀ base outer h₀ → Fr h₀ L s.heap m → (hd.heap_39 w.params).In h₀ → News h₀ L s.heap news → Top hd.view_39 (looseW hd.view_39 []) mean mg mb h₀ → cs.kind = .function →
    dp + sz < recursionLimit → un + 8 * sz < cLine →
    (∀ r nw h' tk', Fr h₀ L h' m → News h₀ L h' (nw ++ news) → out r nw → Q r { s with heap := h', toks := tk' }) →
    wpAny (model PySem.Challenge.rw_iv0042_01.row.prog w) (ktrTop dp un gd cn cs L a ccd cl outer) (call (.ref f) vs) Q E s

theorem callOk_use {w : World} {mean : ExcName → Option Value} {mg mb : Str → Option Value} {f : Addr} {sz : Nat} {vs : List Value} {news : Led} {out : Value → Led → Prop}
    {dp un : Nat} {gd : Option (List Code)} {cn : Str} {cs : Scope} {a : Addr} {ccd : Value} {cl : List (Str × Addr)} {outer : List Env} {A₀ : Around} {base h₀ : Heap} {L : Addr} {m : Str → Option Value} {s : Shared} {Q E : Value → Shared → Prop}
    (B : Below A₀ base outer h₀) (F : Fr h₀ L s.heap m) (X : (hd.heap_39 w.params).In h₀) (N : News h₀ L s.heap news) (T : Top hd.view_39 (looseW hd.view_39 []) mean mg mb h₀) (hk : cs.kind = .function)
    (C : CallOk w mean mg mb f sz vs news out) (hd : dp + sz < recursionLimit) (hu : un + 8 * sz < cLine)
    (ret : ∀ r nw h' tk', Fr h₀ L h' m → News h₀ L h' (nw ++ news) → out r nw → Q r { s with heap := h', toks := tk' }) :
    wpAny (model PySem.Challenge.rw_iv0042_01.row.prog w) (ktrTop dp un gd cn cs L a ccd cl outer) (call (.ref f) vs) Q E s :=
  C _ _ _ _ _ _ _ _ _ _ _ _ _ _ _ _ _ B F X N T hk hd hu ret

theorem CallOk.more {w : World} {mean : ExcName → Option Value} {mg mb : Str → Option Value} {f : Addr} {sz sz' : Nat} {vs : List Value} {news : Led} {out : Value → Led → Prop}
    (C : CallOk w mean mg mb f sz vs news out) (h : sz ≤ sz') : CallOk w mean mg mb f sz' vs news out :=
  fun _ _ _ _ _ _ _ _ _ _ _ _ _ _ _ _ _ B F X N T hk hd hu ret => C _ _ _ _ _ _ _ _ _ _ _ _ _ _ _ _ _ B F X N T hk (by omega) (by omega) ret
theorem CallOk.mono {w : World} {mean : ExcName → Option Value} {mg mb : Str → Option Value} {f : Addr} {sz : Nat} {vs : List Value} {news : Led} {out out' : Value → Led → Prop}
    (C : CallOk w mean mg mb f sz vs news out) (h : ∀ r nw, out r nw → out' r nw) : CallOk w mean mg mb f sz vs news out' :=
  fun _ _ _ _ _ _ _ _ _ _ _ _ _ _ _ _ _ B F X N T hk hd hu ret => C _ _ _ _ _ _ _ _ _ _ _ _ _ _ _ _ _ B F X N T hk hd hu fun r nw h' tk' F' N' o => ret r nw h' tk' F' N' (h r nw o)

/-- what comes back is a tuple of three small ints, T -/
def Res3 (T : Tri) (r : Value) (nw : Led) : Prop :=
  ∃ D X Y Z s1 s2 s3 d, (X, Y, Z) = T ∧ Sm X ∧ Sm Y ∧ Sm Z ∧ r = .ref D ∧ nw = [(D, tup3 X Y Z s1 s2 s3 d)]
def Res2 (T : Int × Int) (r : Value) (nw : Led) : Prop :=
  ∃ D X Y s1 s2 d, (X, Y) = T ∧ Sm X ∧ Sm Y ∧ r = .ref D ∧ nw = [(D, tup2 X Y s1 s2 d)]
def ResS (x : Int) (r : Value) (nw : Led) : Prop := ∃ y t, y = x ∧ Sm y ∧ r = .int y t ∧ nw = []
def ResI (x : Int) (r : Value) (nw : Led) : Prop := ∃ t, r = .int x t ∧ nw = []

section
variable {h₀ h' : Heap} {L : Addr} {m : Str → Option Value} {news led : Led} {s : Shared} {Q : Value → Shared → Prop} {tk' : Nat}
theorem news_sub (N : News h₀ L h' led) (hs : ∀ p ∈ news, p ∈ led) : News h₀ L h' news := fun p hp => N p (hs p hp)
theorem news_add {q : Addr × Obj} (N : News h₀ L h' led) (hs : ∀ p ∈ news, p ∈ led) (hm : q ∈ led) : News h₀ L h' (q :: news) := fun p hp => by
  rcases List.mem_cons.mp hp with rfl | hp
  · exact N _ hm
  · exact N p (hs p hp)
theorem end3 {T : Tri} {X Y Z : Int} {D : Addr} {s1 s2 s3 : Tok} {d : Nat}
    (hret : ∀ r nw h' tk', Fr h₀ L h' m → News h₀ L h' (nw ++ news) → Res3 T r nw → Q r { s with heap := h', toks := tk' })
    (F : Fr h₀ L h' m) (N : News h₀ L h' led) (hm : (D, tup3 X Y Z s1 s2 s3 d) ∈ led) (hs : ∀ p ∈ news, p ∈ led) (e : (X, Y, Z) = T) (hX : Sm X) (hY : Sm Y) (hZ : Sm Z) :
    Q (.ref D) { s with heap := h', toks := tk' } :=
  hret _ [_] _ _ F (news_add N hs hm) ⟨_, _, _, _, _, _, _, _, e, hX, hY, hZ, rfl, rfl⟩
theorem end2 {T : Int × Int} {X Y : Int} {D : Addr} {s1 s2 : Tok} {d : Nat}
    (hret : ∀ r nw h' tk', Fr h₀ L h' m → News h₀ L h' (nw ++ news) → Res2 T r nw → Q r { s with heap := h', toks := tk' })
    (F : Fr h₀ L h' m) (N : News h₀ L h' led) (hm : (D, tup2 X Y s1 s2 d) ∈ led) (hs : ∀ p ∈ news, p ∈ led) (e : (X, Y) = T) (hX : Sm X) (hY : Sm Y) :
    Q (.ref D) { s with heap := h', toks := tk' } :=
  hret _ [_] _ _ F (news_add N hs hm) ⟨_, _, _, _, _, _, e, hX, hY, rfl, rfl⟩
theorem endS {x y : Int} {t : Tok}
    (hret : ∀ r nw h' tk', Fr h₀ L h' m → News h₀ L h' (nw ++ news) → ResS x r nw → Q r { s with heap := h', toks := tk' })
    (F : Fr h₀ L h' m) (N : News h₀ L h' led) (hs : ∀ p ∈ news, p ∈ led) (e : y = x) (hy : Sm y) :
    Q (.int y t) { s with heap := h', toks := tk' } :=
  hret _ [] _ _ F (news_sub N hs) ⟨y, t, e, hy, rfl, rfl⟩
theorem endI {x y : Int} {t : Tok}
    (hret : ∀ r nw h' tk', Fr h₀ L h' m → News h₀ L h' (nw ++ news) → ResI x r nw → Q r { s with heap := h', toks := tk' })
    (F : Fr h₀ L h' m) (N : News h₀ L h' led) (hs : ∀ p ∈ news, p ∈ led) (e : y = x) :
    Q (.int y t) { s with heap := h', toks := tk' } :=
  hret _ [] _ _ F (news_sub N hs) ⟨t, by rw [e], rfl⟩
end

section
variable {prog : Program} {w : World} {A : Around} {E : Value → Shared → Prop} {s : Shared} {a b : Int} {t u : Tok} {Q : Value → Shared → Prop}
theorem modN (hb : 0 < b) (h : ∀ r t k, a % b = r → 0 ≤ r → r < b → Q (.int r t) { s with toks := k }) :
    wpAny (model prog w) A (binaryOp .Mod (.int a t) (.int b u)) Q E s := by
  refine mod_int' (by omega) ?_
  rw [Int.fmod_eq_emod_of_nonneg _ (by omega)]
  exact h _ _ _ rfl (Int.emod_nonneg _ (by omega)) (Int.emod_lt_of_pos _ hb)
theorem divN (hb : 0 < b) (hb2 : b < 1073741824) (h : ∀ r t k, a / b = r → Q (.int r t) { s with toks := k }) :
    wpAny (model prog w) A (binaryOp .FloorDiv (.int a t) (.int b u)) Q E s := by
  refine floordiv_int (by omega) ?_ (.inl (PyProof.noPylong_small (by omega)))
  rw [Int.fdiv_eq_ediv_of_nonneg _ (by omega)]
  exact h _ _ _ rfl
theorem mulT (hm : IntMulOk a b) (h : ∀ t k, Q (.int (a * b) t) { s with toks := k }) : wpAny (model prog w) A (binaryOp .Mult (.int a t) (.int b u)) Q E s := mul_int (h _ _) hm
theorem addT (h : ∀ t k, Q (.int (a + b) t) { s with toks := k }) : wpAny (model prog w) A (binaryOp .Add (.int a t) (.int b u)) Q E s := add_int (h _ _)
theorem subT (h : ∀ t k, Q (.int (a - b) t) { s with toks := k }) : wpAny (model prog w) A (binaryOp .Sub (.int a t) (.int b u)) Q E s := sub_int (h _ _)
theorem okL (h1 : -(2 ^ 64) < a) (h2 : a < 2 ^ 64) : IntMulOk a b := .of_left (intBits_le_64 h1 h2)
theorem okR (h1 : -(2 ^ 64) < b) (h2 : b < 2 ^ 64) : IntMulOk a b := .of_right (intBits_le_64 h1 h2)
theorem okLs (h0 : 0 ≤ a) (h1 : a < 2 ^ 20) : IntMulOk a b := okL (by omega) (by omega)
theorem okRs (h0 : 0 ≤ b) (h1 : b < 2 ^ 20) : IntMulOk a b := okR (by omega) (by omega)
theorem okLP {P : Int} (h0 : 0 ≤ a) (h1 : a < P) (h2 : P < 2 ^ 20) : IntMulOk a b := okL (by omega) (by omega)
theorem okRP {P : Int} (h0 : 0 ≤ b) (h1 : b < P) (h2 : P < 2 ^ 20) : IntMulOk a b := okR (by omega) (by omega)
theorem sm_of {P : Int} (h0 : 0 ≤ a) (h1 : a < P) (h2 : P < 2 ^ 20) : Sm a := ⟨h0, by omega⟩
theorem pow2 (h1 : -(2 ^ 63) < a) (h2 : a < 2 ^ 63) (h : ∀ t k, Q (.int (a ^ 2) t) { s with toks := k }) :
   wpAny (model prog w) A (binaryOp .Pow (.int a t) (.int 2 u)) Q E s := pow_int_small (by decide) (by decide) (by omega) (h _ _)
theorem pow3 (h1 : -(2 ^ 63) < a) (h2 : a < 2 ^ 63) (h : ∀ t k, Q (.int (a ^ 3) t) { s with toks := k }) :
   wpAny (model prog w) A (binaryOp .Pow (.int a t) (.int 3 u)) Q E s := pow_int_small (by decide) (by decide) (by omega) (h _ _)
theorem pow4 (h1 : -(2 ^ 63) < a) (h2 : a < 2 ^ 63) (h : ∀ t k, Q (.int (a ^ 4) t) { s with toks := k }) :
   wpAny (model prog w) A (binaryOp .Pow (.int a t) (.int 4 u)) Q E s := pow_int_small (by decide) (by decide) (by omega) (h _ _)
end


theorem bval_nil : (0 : Int) = bval [] ∧ (0 : Int) ≤ 0 ∧ (0 : Int) < 256 ^ ([] : List Int).length := by decide
theorem bval_step {pre : List Int} {o n : Int} (h : o = bval pre) (h2 : 0 ≤ o) (h3 : o < 256 ^ pre.length) (h0 : 0 ≤ n) (h1 : n < 256) :
    o * 256 + n = bval (pre ++ [n]) ∧ 0 ≤ o * 256 + n ∧ o * 256 + n < 256 ^ (pre ++ [n]).length := by
  subst h
  refine ⟨by simp [bval], by omega, ?_⟩
  rw [List.length_append, List.length_singleton, Int.pow_succ]
  omega
theorem pow256_lt {a : Int} {k : Nat} (h0 : 0 ≤ a) (h1 : a < 256 ^ k) (hk : k ≤ 64) : a.natAbs < 2 ^ 512 := by
  have e : (256 : Int) ^ k = ((256 ^ k : Nat) : Int) := by rw [Int.natCast_pow]; rfl
  have h2 : 256 ^ k ≤ 256 ^ 64 := Nat.pow_le_pow_right (by decide) hk
  have h3 : 256 ^ 64 = 2 ^ 512 := by rw [show 256 = 2 ^ 8 from rfl, ← Nat.pow_mul]
  have h4 : a.natAbs < 256 ^ k := by
    rw [e] at h1
    generalize 256 ^ k = q at *
    omega
  exact h3 ▸ Nat.lt_of_lt_of_le h4 h2
section
variable {prog : Program} {w : World} {A : Around} {E : Value → Shared → Prop} {s : Shared} {a b : Int} {t u : Tok} {Q : Value → Shared → Prop}
theorem shl8 {k : Nat} (h0 : 0 ≤ a) (h1 : a < 256 ^ k) (hk : k ≤ 64) (h : Q (.int (a * 256) s.toks) { s with toks := s.toks + 1 }) :
    wpAny (model prog w) A (binaryOp .LShift (.int a t) (.int 8 u)) Q E s := by
  refine lshift_int (by decide) ?_ h
  have : Builtin.Int.intBits a ≤ 512 := intBits_le_iff.mpr (pow256_lt h0 h1 hk)
  have e : (2 : Int) ^ 27 = 134217728 := by decide
  rw [e]
  omega
end
abbrev EglI (a n lm hm low high : Int) : Prop := egl lm hm low high = egl 1 0 (a % n) n ∧ 0 ≤ low ∧ low < high ∧ high ≤ n
theorem egl_start {a n r : Int} (hn : 0 < n) (hr : a % n = r) : EglI a n 1 0 r n := by
  subst hr
  exact ⟨rfl, Int.emod_nonneg _ (by omega), Int.emod_lt_of_pos _ hn, Int.le_refl _⟩
theorem egl_turn {a n lm hm low high r : Int} (h1 : egl lm hm low high = egl 1 0 (a % n) n) (h2 : 0 ≤ low) (h3 : low < high) (h4 : high ≤ n) (hl : 1 < low) (hr : high / low = r) : EglI a n (hm - lm * r) lm (high - low * r) low := by
  subst hr
  have q1 := Int.emod_lt_of_pos high (show (0 : Int) < low by omega)
  have q2 := Int.mul_ediv_add_emod high low
  have q3 := Int.emod_nonneg high (show low ≠ 0 by omega)
  refine ⟨?_, by omega, by omega, by omega⟩
  rw [← h1, egl.eq_def lm, if_pos hl]
theorem egl_less {low high r : Int} (hl : 1 < low) (hr : high / low = r) : (high - low * r).toNat < low.toNat := by
  subst hr
  have q1 := Int.emod_lt_of_pos high (show (0 : Int) < low by omega)
  have q2 := Int.mul_ediv_add_emod high low
  omega
theorem egl_end {a n lm hm low high r : Int} (h1 : egl lm hm low high = egl 1 0 (a % n) n) (hl : ¬ 1 < low) (hr : lm % n = r) (ha : a ≠ 0) : r = pinv a n := by
  rw [pinv, if_neg ha, ← h1, egl.eq_def, if_neg hl, hr]
theorem pinv_zero {x n : Int} (h : x = 0) : (0 : Int) = pinv x n := (if_pos h).symm
theorem egl_mul {x n low high r : Int} (h2 : 0 ≤ low) (h3 : low < high) (h4 : high ≤ n) (hn : n < 2 ^ 20) (hr : high / low = r) : IntMulOk x r := by
  subst hr
  have q1 : 0 ≤ high / low := Int.ediv_nonneg (by omega) (by omega)
  have q2 : high / low ≤ high := Int.ediv_le_self low (by omega)
  exact okR (by omega) (by omega)
theorem jmul_inf {P N A x z n : Int} : jmul P N A (x, 0, z) n = (0, 0, 1) := if_pos rfl
theorem jmul_zero {P N A : Int} {a : Tri} : jmul P N A a 0 = (0, 0, 1) := by
  unfold jmul; split
  · rfl
  · rw [Int.zero_emod, jmulN]; rfl
theorem jmul_one {P N A x y z : Int} (hN : 1 < N) (hy : y ≠ 0) : jmul P N A (x, y, z) 1 = (x, y, z) := by
  unfold jmul
  rw [if_neg hy, Int.emod_eq_of_lt (by decide) hN, jmulN]; rfl
theorem jmul_mod {P N A : Int} {a : Tri} {n : Int} : jmul P N A a (n % N) = jmul P N A a n := by
  unfold jmul
  rw [Int.emod_emod_of_dvd _ (Int.dvd_refl N)]
theorem jmul_even {P N A x y z n : Int} (hy : y ≠ 0) (h0 : 1 < n) (hN : n < N) (h2 : n % 2 = 0) : jmul P N A (x, y, z) n = jdbl P A (jmul P N A (x, y, z) (n / 2)) := by
  unfold jmul
  rw [if_neg hy, if_neg hy, Int.emod_eq_of_lt (by omega) hN, Int.emod_eq_of_lt (by omega) (by omega), jmulN]
  rw [if_neg (by omega), if_neg (by omega), if_pos (by omega), show (n / 2).toNat = n.toNat / 2 by omega]
theorem jmul_odd {P N A x y z n : Int} (hy : y ≠ 0) (h0 : 1 < n) (hN : n < N) (h2 : n % 2 = 1) : jmul P N A (x, y, z) n = jadd P A (jdbl P A (jmul P N A (x, y, z) (n / 2))) (x, y, z) := by
  unfold jmul
  rw [if_neg hy, if_neg hy, Int.emod_eq_of_lt (by omega) hN, Int.emod_eq_of_lt (by omega) (by omega), jmulN]
  rw [if_neg (by omega), if_neg (by omega), if_neg (by omega), show (n / 2).toNat = n.toNat / 2 by omega]

theorem psign_lo {P N A Gx Gy z d k X Y i s y2 b : Int} (hR : (X, Y) = pmul P N A Gx Gy k) (hi : i = pinv k N) (hs : i * (z + X * d) % N = s) (hy : Y % 2 = y2) (h : s * 2 < N) (hb : b = y2) :
    (27 + b, X, s) = psign P N A Gx Gy z d k := by
  unfold psign
  rw [← hR, ← hi, hs, if_pos h, hb, ← hy]
theorem psign_hi {P N A Gx Gy z d k X Y i s y2 b : Int} (hR : (X, Y) = pmul P N A Gx Gy k) (hi : i = pinv k N) (hs : i * (z + X * d) % N = s) (hy : Y % 2 = y2) (h : ¬ s * 2 < N) (hb : b = 1 - y2) :
    (27 + b, X, N - s) = psign P N A Gx Gy z d k := by
  unfold psign
  rw [← hR, ← hi, hs, if_neg h, hb, ← hy]
section
variable {prog : Program} {w : World} {A : Around} {E : Value → Shared → Prop} {s : Shared} {a b : Int} {t u : Tok} {Q : Value → Shared → Prop}
theorem xor0 (h0 : 0 ≤ a) (h1 : a < 2) (h : ∀ b t k, b = a → 0 ≤ b → b < 2 → Q (.int b t) { s with toks := k }) : wpAny (model prog w) A (binaryOp .BitXor (.int a t) (.int 0 u)) Q E s := by
  refine xor_int ?_
  have : a = 0 ∨ a = 1 := by omega
  rcases this with rfl | rfl
  · exact h _ _ _ rfl (by decide) (by decide)
  · exact h _ _ _ rfl (by decide) (by decide)
theorem xor1 (h0 : 0 ≤ a) (h1 : a < 2) (h : ∀ b t k, b = 1 - a → 0 ≤ b → b < 2 → Q (.int b t) { s with toks := k }) : wpAny (model prog w) A (binaryOp .BitXor (.int a t) (.int 1 u)) Q E s := by
  refine xor_int ?_
  have : a = 0 ∨ a = 1 := by omega
  rcases this with rfl | rfl
  · exact h _ _ _ rfl (by decide) (by decide)
  · exact h _ _ _ rfl (by decide) (by decide)
theorem xorB (h0 : 0 ≤ a) (h1 : a < 2) (h2 : 0 ≤ b) (h3 : b < 2) (h : ∀ c t k, (c = 0 ↔ a = b) → 0 ≤ c → c < 2 → Q (.int c t) { s with toks := k }) : wpAny (model prog w) A (binaryOp .BitXor (.int a t) (.int b u)) Q E s := by
  refine xor_int ?_
  have ha : a = 0 ∨ a = 1 := by omega
  have hb : b = 0 ∨ b = 1 := by omega
  rcases ha with rfl | rfl <;> rcases hb with rfl | rfl <;> exact h _ _ _ (by decide) (by decide) (by decide)
end

theorem kind_pow3 : builtinKind "pow" = none := by decide +kernel
theorem plain_pow3 : plainId "pow" = true := by decide +kernel
theorem entry_pow3 : entryFor table "pow" = some Builtin.«pow» := entryFor_of_fast (by kernel_rfl)
theorem args_pow3 (a b c : Value) : argsOk "pow" ⟨[a, b, c], []⟩ := by unfold argsOk; kernel_rfl
theorem args_int_pow3 (a b c : Value) : argsOk "int.__pow__" ⟨[a, b, c], []⟩ := by unfold argsOk; kernel_rfl
theorem slot_pow3 : Slot "int" (Str.ofString "__pow__") "int.__pow__" := by
  have h := slot_int_pow
  rw [show PySem.dunder "pow" = Str.ofString "__pow__" from by decide +kernel] at h
  exact h
section
variable {prog : Program} {w : World} {A : Around} {E : Value → Shared → Prop} {s : Shared} {a e n : Int} {t u v : Tok} {Q : Value → Shared → Prop}
theorem call_int_pow3 (he : 0 ≤ e) (hn : 1 < n) (h : Q (.int (Builtin.powMod (a % n).toNat e.natAbs n.natAbs : Nat) s.toks) { s with toks := s.toks + 1 }) :
    wpAny (model prog w) A (call (.builtin "int.__pow__") [.int a t, .int e u, .int n v]) (fun v s' => v ≠ .notImplemented ∧ Q v s') E s := by
  refine wpAny_call_entry slot_int_pow (typeIs_int s a t) entry_int_pow ?_ (args_int_pow3 _ _ _)
  show wpAny _ _ (if (n == 0) = true then _ else _) _ _ s
  rw [if_neg (by simp; omega)]
  show wpAny _ _ (if (n.natAbs == 1) = true then _ else _) _ _ s
  rw [if_neg (by simp; omega)]
  show wpAny _ _ (if e < 0 then _ else _) _ _ s
  rw [if_neg (by omega)]
  show wpAny _ _ (retInt (if (decide (n < 0) && ((Builtin.powMod (a % (n.natAbs : Int)).toNat e.natAbs n.natAbs : Nat) : Int) != 0) = true then _ else _)) _ _ s
  rw [if_neg (by simp; omega)]
  have en : ((n.natAbs : Nat) : Int) = n := by omega
  rw [en]
  exact wpAny_ret_mkInt ⟨by simp, h⟩
theorem call_pow3 (he : 0 ≤ e) (hn : 1 < n) (h : Q (.int (Builtin.powMod (a % n).toNat e.natAbs n.natAbs : Nat) s.toks) { s with toks := s.toks + 1 }) :
    wpAny (model prog w) A (call (.builtin "pow") [.int a t, .int e u, .int n v]) Q E s := by
  refine call_function_entry kind_pow3 plain_pow3 entry_pow3 (args_pow3 _ _ _) ?_
  unfold Builtin.«pow»
  refine wpAny_bind (m := Builtin.Builtins.bindParams "pow" _ 2 _) (wpAny_pure ?_)
  refine wpAny_bind (wpAny_rule ?_)
  refine wpAny_bind (m := typeOf (.int a t)) (wpAny_pure ?_)
  show wpAny _ _ (typeLookup (.type "int") (Str.ofString "__pow__") >>= _) _ _ s
  refine wpAny_bind (m := typeLookup (.type "int") (Str.ofString "__pow__")) ?_
  rw [slot_pow3.lookup]
  refine wpAny_pure ?_
  show wpAny _ _ (callSpecial? (.int a t) (Str.ofString "__pow__") [.int e u, .int n v] >>= _) _ _ s
  refine wpAny_bind (wpAny_callSpecial?_slot (name := Str.ofString "__pow__") (typeIs_int s a t) slot_pow3 ?_)
  refine wpAny_mono (call_int_pow3 he hn h) (fun r s' hr => ?_) fun _ _ x => x
  obtain ⟨hr1, hr2⟩ := hr
  dsimp only
  rw [if_pos (by simpa using hr1)]
  exact wpAny_pure ⟨_, rfl, hr2⟩
end
theorem emod_pow (a n : Int) : ∀ k : Nat, (a % n) ^ k % n = a ^ k % n := by
  intro k
  induction k with
  | zero => rw [Int.pow_zero, Int.pow_zero]
  | succ k ih => rw [Int.pow_succ, Int.pow_succ, Int.mul_emod, ih, Int.emod_emod_of_dvd _ (Int.dvd_refl n), ← Int.mul_emod]
theorem powMod_step {b e m : Nat} : ∀ k q : Nat, (List.range k).reverse.foldl (fun p i => if e.testBit i then p * p % m * b % m else p * p % m) (b ^ q % m) = b ^ (q * 2 ^ k + e % 2 ^ k) % m := by
  intro k
  induction k with
  | zero => intro q; simp [Nat.mod_one]
  | succ k ih =>
    intro q
    rw [List.range_succ, List.reverse_append, List.reverse_singleton, List.singleton_append, List.foldl_cons]
    have hb : e % 2 ^ (k + 1) = e % 2 ^ k + 2 ^ k * (e / 2 ^ k % 2) := Nat.mod_pow_succ
    have ht : e.testBit k = (e / 2 ^ k % 2 == 1) := by
      rw [Nat.testBit_eq_decide_div_mod_eq]
      by_cases h : e / 2 ^ k % 2 = 1 <;> simp [h]
    rw [ht, hb]
    have h2 : e / 2 ^ k % 2 = 0 ∨ e / 2 ^ k % 2 = 1 := by omega
    have hsq : b ^ q % m * (b ^ q % m) % m = b ^ (2 * q) % m := by
      rw [← Nat.mul_mod, ← Nat.pow_add]
      congr 2
      omega
    rcases h2 with h | h
    · rw [h]
      simp only [show ((0 : Nat) == 1) = false from rfl, Bool.false_eq_true, if_false]
      rw [hsq, ih]
      congr 2
      rw [Nat.pow_succ, Nat.mul_comm 2 q, Nat.mul_assoc, Nat.mul_comm 2 (2 ^ k)]
      omega
    · rw [h]
      simp only [beq_self_eq_true, if_true]
      have hm : b ^ q % m * (b ^ q % m) % m * b % m = b ^ (2 * q + 1) % m := by
        rw [hsq, Nat.pow_succ, Nat.mul_mod, Nat.mod_mod, ← Nat.mul_mod]
      rw [hm, ih]
      congr 2
      rw [Nat.pow_succ, Nat.add_mul, Nat.mul_comm 2 q, Nat.mul_assoc, Nat.mul_comm 2 (2 ^ k)]
      omega
theorem powMod_eq (b e m : Nat) : Builtin.powMod b e m = b ^ e % m := by
  unfold Builtin.powMod
  have h := powMod_step (b := b) (e := e) (m := m) (Builtin.Int.intBits e) 0
  have hlt : e < 2 ^ Builtin.Int.intBits e := by
    have := intBits_le_iff (x := (e : Int)).mp (Nat.le_refl _)
    simpa using this
  rw [Nat.pow_zero, Nat.zero_mul, Nat.zero_add, Nat.mod_eq_of_lt hlt] at h
  exact h
theorem powMod_int {a e n : Int} (he : 0 ≤ e) (hn : 1 < n) : ((Builtin.powMod (a % n).toNat e.natAbs n.natAbs : Nat) : Int) = a ^ e.toNat % n := by
  have h1 : ((a % n).toNat : Int) = a % n := Int.toNat_of_nonneg (Int.emod_nonneg _ (by omega))
  rw [powMod_eq, Int.natCast_emod, Int.natCast_pow, h1, show ((n.natAbs : Nat) : Int) = n by omega, show e.natAbs = e.toNat by omega]
  exact emod_pow _ _ _
section
variable {prog : Program} {w : World} {A : Around} {E : Value → Shared → Prop} {s : Shared} {a e n : Int} {t u v : Tok} {Q : Value → Shared → Prop}
theorem powN3 (he : 0 ≤ e) (hn : 1 < n) (h : ∀ r t k, a ^ e.toNat % n = r → 0 ≤ r → r < n → Q (.int r t) { s with toks := k }) :
    wpAny (model prog w) A (call (.builtin "pow") [.int a t, .int e u, .int n v]) Q E s := by
  refine call_pow3 he hn ?_
  rw [powMod_int he hn]
  exact h _ _ _ rfl (Int.emod_nonneg _ (by omega)) (Int.emod_lt_of_pos _ (by omega))
end

def ResO (what : Value → Prop) (o : Option (Int × Int)) (r : Value) (nw : Led) : Prop :=
  match o with
  | none => what r ∧ nw = []
  | some T => Res2 T r nw

/-- a place where the walk is to stop -/
def Hold (P : Prop) : Prop := P
/-- the walk is not to stop -/
structure Pass : Prop where
theorem Hold.of {P : Prop} (h : Hold P) : P := h
section
variable {M : Model} {A : Around} {E : Value → Shared → Prop} {s : Shared} {h₀ : Heap} {L : Addr} {m : Str → Option Value} {news : Led}
theorem cutB {tree : Sem Bool} {Q : Bool → Shared → Prop} (_F : Fr h₀ L s.heap m) (_N : News h₀ L s.heap news) (cond : Prop)
    (h : ∀ Q' : Bool → Shared → Prop, Pass → (∀ b h' tk', Fr h₀ L h' m → News h₀ L h' news → (b = true ↔ cond) → Q' b { s with heap := h', toks := tk' }) → wpAny M A tree Q' E s)
    (k : ∀ b h' tk', Fr h₀ L h' m → News h₀ L h' news → (b = true ↔ cond) → Q b { s with heap := h', toks := tk' }) : wpAny M A tree Q E s := h Q ⟨⟩ k
theorem cutI {tree : Sem Value} {Q : Value → Shared → Prop} (_F : Fr h₀ L s.heap m) (_N : News h₀ L s.heap news) (φ : Int → Prop)
    (h : ∀ Q' : Value → Shared → Prop, Pass → (∀ y t h' tk', Fr h₀ L h' m → News h₀ L h' news → φ y → Q' (.int y t) { s with heap := h', toks := tk' }) → wpAny M A tree Q' E s)
    (k : ∀ y t h' tk', Fr h₀ L h' m → News h₀ L h' news → φ y → Q (.int y t) { s with heap := h', toks := tk' }) : wpAny M A tree Q E s := h Q ⟨⟩ k
end
theorem jp_len {a b : Str} {n : Int} (h0 : 0 ≤ n) (h1 : n < 10 ^ 10) (h : Str.empty.length + a.length + 10 + b.length ≤ sizeLine) : (Str.empty ++ a ++ Str.ofString (toString n) ++ b).length ≤ sizeLine :=
  Nat.le_trans (KT.len_app (KT.len_app (KT.len_app (Nat.le_refl _) (Nat.le_refl _)) (KT.len_num h0 h1)) (Nat.le_refl _)) h
theorem notin_iff {v : Int} : (![27, 28].any fun x => x == v) = true ↔ ¬ (v = 27 ∨ v = 28) := by
  by_cases h1 : v = 27
  · subst h1; simp
  · by_cases h2 : v = 28
    · subst h2; simp
    · simp [h1, h2]
      omega
section
variable {h₀ h' : Heap} {L : Addr} {m : Str → Option Value} {news led : Led} {s : Shared} {Q : Value → Shared → Prop} {tk' : Nat} {what : Value → Prop} {o : Option (Int × Int)}
theorem endO_none {v : Value} (hret : ∀ r nw h' tk', Fr h₀ L h' m → News h₀ L h' (nw ++ news) → ResO what o r nw → Q r { s with heap := h', toks := tk' })
    (F : Fr h₀ L h' m) (N : News h₀ L h' led) (hs : ∀ p ∈ news, p ∈ led) (e : o = none) (hw : what v) : Q v { s with heap := h', toks := tk' } :=
  hret _ [] _ _ F (news_sub N hs) (by subst e; exact ⟨hw, rfl⟩)
theorem endO_some {T : Int × Int} {X Y : Int} {D : Addr} {s1 s2 : Tok} {d : Nat} (hret : ∀ r nw h' tk', Fr h₀ L h' m → News h₀ L h' (nw ++ news) → ResO what o r nw → Q r { s with heap := h', toks := tk' })
    (F : Fr h₀ L h' m) (N : News h₀ L h' led) (hm : (D, tup2 X Y s1 s2 d) ∈ led) (hs : ∀ p ∈ news, p ∈ led) (e : o = some T) (eT : (X, Y) = T) (hX : Sm X) (hY : Sm Y) :
    Q (.ref D) { s with heap := h', toks := tk' } :=
  hret _ [_] _ _ F (news_add N hs hm) (by subst e; exact ⟨_, _, _, _, _, _, eT, hX, hY, rfl, rfl⟩)
end
theorem rec_none1 {P N A B Gx Gy z v r s : Int} (h : ¬ (v = 27 ∨ v = 28)) : precover P N A B Gx Gy z v r s = none := by
  unfold precover
  rw [if_pos h]
theorem rec_none2 {P N A B Gx Gy z v r s : Int} (h : recBad P N A B v r s = true) : precover P N A B Gx Gy z v r s = none := by
  unfold precover
  rw [if_pos h]
  split <;> rfl
theorem rec_some {P N A B Gx Gy z v r s y n u X Y : Int} {G S T U : Tri} (h : v = 27 ∨ v = 28) (h2 : ¬ recBad P N A B v r s = true) (hy : y = ybeta P A B v r) (hn : (N - z) % N = n) (hG : G = jmul P N A (Gx, Gy, 1) n) (hS : S = jmul P N A (r, y, 1) s)
    (hT : T = jadd P A G S) (hu : u = pinv r N) (hU : U = jmul P N A T u) (e : (X, Y) = fromJ P U) : precover P N A B Gx Gy z v r s = some (X, Y) := by
  subst hy hn hG hS hT hu hU
  rw [e]
  unfold precover
  rw [if_neg (by omega), if_neg h2]
theorem yb_1 {P A B v r c e b v2 b2 x : Int} (h1 : (r * r * r + A * r + B) % P = c) (h2 : (P + 1) / 4 = e) (h3 : c ^ e.toNat % P = b) (h4 : v % 2 = v2) (h5 : b % 2 = b2) (h6 : x = 0 ↔ v2 = b2) (h7 : x ≠ 0) : b = ybeta P A B v r := by
  subst h1 h2 h3 h4 h5
  unfold ybeta
  dsimp only
  rw [if_neg (fun k => h7 (h6.mpr k))]
theorem yb_2 {P A B v r c e b v2 b2 x : Int} (h1 : (r * r * r + A * r + B) % P = c) (h2 : (P + 1) / 4 = e) (h3 : c ^ e.toNat % P = b) (h4 : v % 2 = v2) (h5 : b % 2 = b2) (h6 : x = 0 ↔ v2 = b2) (h7 : x = 0) : P - b = ybeta P A B v r := by
  subst h1 h2 h3 h4 h5
  unfold ybeta
  dsimp only
  rw [if_pos (h6.mp h7)]
theorem rb_1 {P N A B v r s c y d : Int} (h1 : (r * r * r + A * r + B) % P = c) (hy : y = ybeta P A B v r) (h2 : (c - y * y) % P = d) (h3 : d ≠ 0) : true = true ↔ recBad P N A B v r s = true := by
  subst h1 hy h2
  exact ⟨fun _ => decide_eq_true (.inl h3), fun _ => rfl⟩
theorem rb_2 {P N A B v r s d : Int} (h2 : r % N = d) (h3 : d = 0) : true = true ↔ recBad P N A B v r s = true := ⟨fun _ => decide_eq_true (.inr (.inl (h2.trans h3))), fun _ => rfl⟩
theorem rb_3 {P N A B v r s d : Int} (h2 : s % N = d) (h3 : d = 0) : true = true ↔ recBad P N A B v r s = true := ⟨fun _ => decide_eq_true (.inr (.inr (h2.trans h3))), fun _ => rfl⟩
theorem rb_4 {P N A B v r s c y d d2 d3 : Int} (h1 : (r * r * r + A * r + B) % P = c) (hy : y = ybeta P A B v r) (h2 : (c - y * y) % P = d) (h3 : d = 0) (h4 : r % N = d2) (h5 : d2 ≠ 0) (h6 : s % N = d3) (h7 : d3 ≠ 0) : false = true ↔ recBad P N A B v r s = true := by
  subst h1 hy h2 h4 h6
  refine ⟨(fun k => nomatch k), fun k => ?_⟩
  rcases of_decide_eq_true k with k | k | k
  · exact absurd h3 k
  · exact absurd k h5
  · exact absurd k h7
theorem b_yes {b : Bool} {p : Prop} (h : b = true ↔ p) (hb : b = true) : p := h.mp hb
theorem b_no {b : Bool} {p : Prop} (h : b = true ↔ p) (hb : ¬ b = true) : ¬ p := fun k => hb (h.mpr k)
theorem b_no' {b : Bool} {p : Prop} (h : b = true ↔ p) (hb : b = false) : ¬ p := fun k => by rw [hb] at h; exact Bool.false_ne_true (h.mpr k)

/-- a call out of the law's own frame; Pre tells what the world at the start holds -/
def CallLawP (w : World) (mean : ExcName → Option Value) (mg mb : Str → Option Value) (f : Addr) (vs : List Value) (news : Led) (Pre : Heap → Prop) (out : Value → Led → Prop) : Prop :=
  ∀ (cn : Str) (cs : Scope) (a : Addr) (ccd : Value) (h₀ : Heap) (L : Addr) (m : Str → Option Value) (s : Shared) (Q E : Value → Shared → Prop),
    Below callerA h₀ [] h₀ → Fr h₀ L s.heap m → (hd.heap_39 w.params).In h₀ → News h₀ L s.heap news → Top hd.view_39 (looseW hd.view_39 []) mean mg mb h₀ → cs.kind = .function → Pre h₀ →
    (∀ r nw h' tk', Fr h₀ L h' m → News h₀ L h' (nw ++ news) → out r nw → Q r { s with heap := h', toks := tk' }) →
    wpAny (model PySem.Challenge.rw_iv0042_01.row.prog w) (callerA.deeper (envOf cn cs L a ccd)) (call (.ref f) vs) Q E s
abbrev CallLaw (w : World) (mean : ExcName → Option Value) (mg mb : Str → Option Value) (f : Addr) (vs : List Value) (news : Led) (out : Value → Led → Prop) : Prop := CallLawP w mean mg mb f vs news (fun _ => True) out
theorem callLawP_use {w : World} {mean : ExcName → Option Value} {mg mb : Str → Option Value} {f : Addr} {vs : List Value} {news : Led} {Pre : Heap → Prop} {out : Value → Led → Prop}
    {cn : Str} {cs : Scope} {a : Addr} {ccd : Value} {h₀ : Heap} {L : Addr} {m : Str → Option Value} {s : Shared} {Q E : Value → Shared → Prop}
    (B : Below callerA h₀ [] h₀) (F : Fr h₀ L s.heap m) (X : (hd.heap_39 w.params).In h₀) (N : News h₀ L s.heap news) (T : Top hd.view_39 (looseW hd.view_39 []) mean mg mb h₀) (hk : cs.kind = .function)
    (C : CallLawP w mean mg mb f vs news Pre out) (hp : Pre h₀)
    (ret : ∀ r nw h' tk', Fr h₀ L h' m → News h₀ L h' (nw ++ news) → out r nw → Q r { s with heap := h', toks := tk' }) :
    wpAny (model PySem.Challenge.rw_iv0042_01.row.prog w) (callerA.deeper (envOf cn cs L a ccd)) (call (.ref f) vs) Q E s :=
  C _ _ _ _ _ _ _ _ _ _ B F X N T hk hp ret

/-- what comes back is None or a tuple of two small ints -/
def ResV (S : Option (Int × Int)) (r : Value) (nw : Led) : Prop :=
  match S with
  | none => r = .none ∧ nw = []
  | some T => Res2 T r nw
section
variable {h₀ h' : Heap} {L : Addr} {m : Str → Option Value} {news led : Led} {s : Shared} {Q : Value → Shared → Prop} {tk' : Nat} {S : Option (Int × Int)}
theorem endV_none (hret : ∀ r nw h' tk', Fr h₀ L h' m → News h₀ L h' (nw ++ news) → ResV S r nw → Q r { s with heap := h', toks := tk' })
    (F : Fr h₀ L h' m) (N : News h₀ L h' led) (hs : ∀ p ∈ news, p ∈ led) (e : S = none) : Q .none { s with heap := h', toks := tk' } :=
  hret _ [] _ _ F (news_sub N hs) (by subst e; exact ⟨rfl, rfl⟩)
theorem endV_some {T : Int × Int} {X Y : Int} {D : Addr} {s1 s2 : Tok} {d : Nat} (hret : ∀ r nw h' tk', Fr h₀ L h' m → News h₀ L h' (nw ++ news) → ResV S r nw → Q r { s with heap := h', toks := tk' })
    (F : Fr h₀ L h' m) (N : News h₀ L h' led) (hm : (D, tup2 X Y s1 s2 d) ∈ led) (hs : ∀ p ∈ news, p ∈ led) (e : S = some T) (eT : (X, Y) = T) (hX : Sm X) (hY : Sm Y) :
    Q (.ref D) { s with heap := h', toks := tk' } :=
  hret _ [_] _ _ F (news_add N hs hm) (by subst e; exact ⟨_, _, _, _, _, _, eT, hX, hY, rfl, rfl⟩)
end

section
variable {prog : Program} {w : World} {A : Around} {E : Value → Shared → Prop} {s : Shared} {h₀ : Heap} {L : Addr} {news : Led} {Q : Value → Shared → Prop}
theorem eq_tup2 {d1 d2 : Addr} {x1 y1 x2 y2 : Int} {t1 t2 t3 t4 : Tok} {c c2 : Nat} (N : News h₀ L s.heap news) (hp : (d1, tup2 x1 y1 t1 t2 c) ∈ news) (hq : (d2, tup2 x2 y2 t3 t4 c2) ∈ news) (hu : A.units < cLine)
    (h : Q (.bool (decide ((x1, y1) = (x2, y2)))) s) : wpAny (model prog w) A (compareOp .Eq (.ref d1) (.ref d2)) Q E s := by
  refine SeqAt.eq_tupleAt (e := fun j => if j = 0 then x1 == x2 else y1 == y2) ⟨_, (N _ hp).1, rfl, _, rfl⟩ ⟨_, (N _ hq).1, rfl, _, rfl⟩ hu (fun j h1 h2 => ?_) ?_
  · have hj : j = 0 ∨ j = 1 := by simp at h1; omega
    rcases hj with rfl | rfl
    · exact SeqAt.EqAt.int_int _ _ _ _
    · exact SeqAt.EqAt.int_int _ _ _ _
  · have e : ((List.range (min (#[Value.int x1 t1, Value.int y1 t2]).size (#[Value.int x2 t3, Value.int y2 t4]).size)).all (fun j => if j = 0 then x1 == x2 else y1 == y2) && (#[Value.int x1 t1, Value.int y1 t2]).size == (#[Value.int x2 t3, Value.int y2 t4]).size) = decide ((x1, y1) = (x2, y2)) := by
      show ((List.range 2).all _ && _) = _
      by_cases hx : x1 = x2 <;> by_cases hy : y1 = y2 <;> simp [hx, hy, List.range_succ]
    rw [e]
    exact h
theorem ne_tup2 {d1 d2 : Addr} {x1 y1 x2 y2 : Int} {t1 t2 t3 t4 : Tok} {c c2 : Nat} (N : News h₀ L s.heap news) (hp : (d1, tup2 x1 y1 t1 t2 c) ∈ news) (hq : (d2, tup2 x2 y2 t3 t4 c2) ∈ news) (hu : A.units < cLine)
    (h : Q (.bool (decide ((x1, y1) ≠ (x2, y2)))) s) : wpAny (model prog w) A (compareOp .NotEq (.ref d1) (.ref d2)) Q E s := by
  refine SeqAt.RcNeAt.tuples (e := fun j => if j = 0 then x1 == x2 else y1 == y2) ⟨_, (N _ hp).1, rfl, _, rfl⟩ ⟨_, (N _ hq).1, rfl, _, rfl⟩ hu (fun j h1 h2 => ?_) prog w E Q ?_
  · have hj : j = 0 ∨ j = 1 := by simp at h1; omega
    rcases hj with rfl | rfl
    · exact SeqAt.EqAt.int_int _ _ _ _
    · exact SeqAt.EqAt.int_int _ _ _ _
  · have e : (!((List.range (min (#[Value.int x1 t1, Value.int y1 t2]).size (#[Value.int x2 t3, Value.int y2 t4]).size)).all (fun j => if j = 0 then x1 == x2 else y1 == y2) && (#[Value.int x1 t1, Value.int y1 t2]).size == (#[Value.int x2 t3, Value.int y2 t4]).size)) = decide ((x1, y1) ≠ (x2, y2)) := by
      show (!((List.range 2).all _ && _)) = _
      by_cases hx : x1 = x2 <;> by_cases hy : y1 = y2 <;> simp [hx, hy, List.range_succ]
    rw [e]
    exact h
theorem ne_tup3 {d1 d2 : Addr} {x1 y1 z1 x2 y2 z2 : Int} {t1 t2 t3 t4 t5 t6 : Tok} {c c2 : Nat} (N : News h₀ L s.heap news) (hp : (d1, tup3 x1 y1 z1 t1 t2 t5 c) ∈ news) (hq : (d2, tup3 x2 y2 z2 t3 t4 t6 c2) ∈ news) (hu : A.units < cLine)
    (h : Q (.bool (decide ((x1, y1, z1) ≠ (x2, y2, z2)))) s) : wpAny (model prog w) A (compareOp .NotEq (.ref d1) (.ref d2)) Q E s := by
  refine SeqAt.RcNeAt.tuples (e := fun j => if j = 0 then x1 == x2 else if j = 1 then y1 == y2 else z1 == z2) ⟨_, (N _ hp).1, rfl, _, rfl⟩ ⟨_, (N _ hq).1, rfl, _, rfl⟩ hu (fun j h1 h2 => ?_) prog w E Q ?_
  · have hj : j = 0 ∨ j = 1 ∨ j = 2 := by simp at h1; omega
    rcases hj with rfl | rfl | rfl
    · exact SeqAt.EqAt.int_int _ _ _ _
    · exact SeqAt.EqAt.int_int _ _ _ _
    · exact SeqAt.EqAt.int_int _ _ _ _
  · have e : (!((List.range (min (#[Value.int x1 t1, Value.int y1 t2, Value.int z1 t5]).size (#[Value.int x2 t3, Value.int y2 t4, Value.int z2 t6]).size)).all (fun j => if j = 0 then x1 == x2 else if j = 1 then y1 == y2 else z1 == z2) && (#[Value.int x1 t1, Value.int y1 t2, Value.int z1 t5]).size == (#[Value.int x2 t3, Value.int y2 t4, Value.int z2 t6]).size)) = decide ((x1, y1, z1) ≠ (x2, y2, z2)) := by
      show (!((List.range 3).all _ && _)) = _
      by_cases hx : x1 = x2 <;> by_cases hy : y1 = y2 <;> by_cases hz : z1 = z2 <;> simp [hx, hy, hz, List.range_succ]
    rw [e]
    exact h
end

theorem lsI_none {P A x1 y1 x2 y2 e : Int} (hx : x1 = x2) (he : (y1 + y2) % P = e) (h0 : e = 0) : lsumI P A (some (x1, y1)) (some (x2, y2)) = none := by
  unfold lsumI
  dsimp only
  rw [if_pos ⟨hx, he.trans h0⟩]
theorem lsI_dbl {P A x1 y1 x2 y2 d i X Y : Int} (hn : ¬ (x1 = x2 ∧ (y1 + y2) % P = 0)) (e : (x1, y1) = (x2, y2)) (h1 : 2 * y1 % P = d) (h2 : d ^ (P - 2).toNat % P = i)
    (h3 : ((3 * x1 * x1 + A) * i * ((3 * x1 * x1 + A) * i) - x1 - x2) % P = X) (h4 : ((3 * x1 * x1 + A) * i * (x1 - X) - y1) % P = Y) : lsumI P A (some (x1, y1)) (some (x2, y2)) = some (X, Y) := by
  subst h1 h2 h3 h4
  unfold lsumI
  dsimp only
  rw [if_neg hn, if_pos e]
theorem lsI_add {P A x1 y1 x2 y2 d i X Y : Int} (hn : ¬ (x1 = x2 ∧ (y1 + y2) % P = 0)) (e : ¬ (x1, y1) = (x2, y2)) (h1 : (x2 - x1) % P = d) (h2 : d ^ (P - 2).toNat % P = i)
    (h3 : ((y2 - y1) * i * ((y2 - y1) * i) - x1 - x2) % P = X) (h4 : ((y2 - y1) * i * (x1 - X) - y1) % P = Y) : lsumI P A (some (x1, y1)) (some (x2, y2)) = some (X, Y) := by
  subst h1 h2 h3 h4
  unfold lsumI
  dsimp only
  rw [if_neg hn, if_neg e]
theorem ls_n1 {x1 x2 e : Int} (h : x1 ≠ x2) : ¬ (x1 = x2 ∧ e = 0) := fun k => h k.1
theorem ls_n2 {x1 x2 y P e : Int} (he : y % P = e) (h : e ≠ 0) : ¬ (x1 = x2 ∧ y % P = 0) := fun k => h (he.symm.trans k.2)

end
section


theorem safe_ok {w mean mg mb} {v : Int} {t : Tok} {news : Led} : CallOk w mean mg mb 21 1 [.int v t] news (ResI v) := by
  k_with_none
  k_with "binaryOp Mod int int" => (k_here; refine' modN (by first | decide | assumption | omega) ?_; k_whole; intro wmr wmt9 wmk9 wme wml wmu)
  k_with "binaryOp FloorDiv int int" => (k_here; refine' divN (by first | decide | assumption | omega) (by first | decide | omega) ?_; k_whole; intro wmr wmt9 wmk9 wme)
  k_with "binaryOp Mult int int" => (k_here; refine' mulT (by first | exact okL (by decide) (by decide) | exact okR (by decide) (by decide) | exact okLs (by assumption) (by assumption) | exact okRs (by assumption) (by assumption) | exact okLP (by assumption) (by assumption) (by assumption) | exact okRP (by assumption) (by assumption) (by assumption) | exact okL (by omega) (by omega) | exact okR (by omega) (by omega)) ?_; k_whole; intro wmt9 wmk9)
  k_with "binaryOp Pow int int" => (k_here; (first | refine' pow2 (by omega) (by omega) ?_ | refine' pow3 (by omega) (by omega) ?_ | refine' pow4 (by omega) (by omega) ?_); k_whole; intro wmt9 wmk9)
  k_with "binaryOp Add int int" => (k_here; refine' addT ?_; k_whole; intro wmt9 wmk9)
  k_with "binaryOp Sub int int" => (k_here; refine' subT ?_; k_whole; intro wmt9 wmk9)
  k_with "binaryOp LShift int int" => (k_here; refine' shl8 (by assumption) (by assumption) (by (simp only [Array.length_toList] at *; omega)) ?_; k_whole)
  k_with "binaryOp Mult int int" => (k_here; refine' mul_int ?_ (by first | exact okL (by decide) (by decide) | exact okR (by decide) (by decide) | exact okLs (by assumption) (by assumption) | exact okRs (by assumption) (by assumption) | exact okLP (by assumption) (by assumption) (by assumption) | exact okRP (by assumption) (by assumption) (by assumption) | exact okL (by omega) (by omega) | exact okR (by omega) (by omega) | exact egl_mul (by assumption) (by assumption) (by assumption) (by assumption) (by assumption)); k_whole)
  unfold CallOk
  k_fill
  intro dp un gd cn cs a ccd cl outer A₀ base h₀ L m s Q E B F X NN T hk hd hu hret
  refine wpAny_call ?_
  k_dflt cell_enter
  k_steps
  all_goals (refine' endI (Q := Q) (s := s) hret ?eF ?eN ?eS ?eE; (case eF => assumption); (case eN => assumption); (case eS => kcj_all); (case eE => rfl))



theorem bytes_ok {w mean mg mb} {arr : Array UInt8} {t : Tok} {news : Led} (hs : arr.size ≤ 64) :
   CallOk w mean mg mb 28 2 [.bytes arr t] news (ResI (bval (KBw.bInts arr))) := by
  k_with_none
  k_with "binaryOp Mod int int" => (k_here; refine' modN (by first | decide | assumption | omega) ?_; k_whole; intro wmr wmt9 wmk9 wme wml wmu)
  k_with "binaryOp FloorDiv int int" => (k_here; refine' divN (by first | decide | assumption | omega) (by first | decide | omega) ?_; k_whole; intro wmr wmt9 wmk9 wme)
  k_with "binaryOp Mult int int" => (k_here; refine' mulT (by first | exact okL (by decide) (by decide) | exact okR (by decide) (by decide) | exact okLs (by assumption) (by assumption) | exact okRs (by assumption) (by assumption) | exact okLP (by assumption) (by assumption) (by assumption) | exact okRP (by assumption) (by assumption) (by assumption) | exact okL (by omega) (by omega) | exact okR (by omega) (by omega)) ?_; k_whole; intro wmt9 wmk9)
  k_with "binaryOp Pow int int" => (k_here; (first | refine' pow2 (by omega) (by omega) ?_ | refine' pow3 (by omega) (by omega) ?_ | refine' pow4 (by omega) (by omega) ?_); k_whole; intro wmt9 wmk9)
  k_with "binaryOp Add int int" => (k_here; refine' addT ?_; k_whole; intro wmt9 wmk9)
  k_with "binaryOp Sub int int" => (k_here; refine' subT ?_; k_whole; intro wmt9 wmk9)
  k_with "binaryOp LShift int int" => (k_here; refine' shl8 (by assumption) (by assumption) (by (simp only [Array.length_toList] at *; omega)) ?_; k_whole)
  k_with "binaryOp Mult int int" => (k_here; refine' mul_int ?_ (by first | exact okL (by decide) (by decide) | exact okR (by decide) (by decide) | exact okLs (by assumption) (by assumption) | exact okRs (by assumption) (by assumption) | exact okLP (by assumption) (by assumption) (by assumption) | exact okRP (by assumption) (by assumption) (by assumption) | exact okL (by omega) (by omega) | exact okR (by omega) (by omega) | exact egl_mul (by assumption) (by assumption) (by assumption) (by assumption) (by assumption)); k_whole)
  k_with "call ref" => (k_here; (with_reducible show wpAny _ _ (call (Value.ref 21) _) _ _ _); k_dflt (refine' callOk_use (by k_asm) (by k_asm) (by k_asm) (by k_asm) (by k_asm) (by first | exact rfl | assumption) (safe_ok) (by ktr_room) (by ktr_units) ?_; rintro wr9 wnw9 wh9 wtk9 wF9 wN9 ⟨wt9, we91, we92⟩; subst we91; subst we92; (try simp only [List.cons_append, List.nil_append] at wN9); (try k_sweep); (try dsimp only); (try k_fold)))
  unfold CallOk
  k_fill
  intro dp un gd cn cs a ccd cl outer A₀ base h₀ L m s Q E B F X NN T hk hd hu hret
  refine wpAny_call ?_
  k_dflt cell_enter
  k_with "pyIter bytes" => k_state (fun pre o => o = bval pre ∧ 0 ≤ o ∧ o < 256 ^ pre.length) "o"
  k_with "state" => first | exact bval_nil | exact bval_step (by assumption) (by assumption) (by assumption) (by assumption) (by assumption)
  k_steps
  all_goals (refine' endI (Q := Q) (s := s) hret ?eF ?eN ?eS ?eE; (case eF => assumption); (case eN => assumption); (case eS => kcj_all); (case eE => assumption))

theorem inv_ok {w mean mg mb} {x n : Int} {t u : Tok} {news : Led} (hs : 1 < n ∧ n < 2 ^ 20) :
   CallOk w mean mg mb 35 1 [.int x t, .int n u] news (ResS (pinv x n)) := by
  k_with_none
  k_with "binaryOp Mod int int" => (k_here; refine' modN (by first | decide | assumption | omega) ?_; k_whole; intro wmr wmt9 wmk9 wme wml wmu)
  k_with "binaryOp FloorDiv int int" => (k_here; refine' divN (by first | decide | assumption | omega) (by first | decide | omega) ?_; k_whole; intro wmr wmt9 wmk9 wme)
  k_with "binaryOp Mult int int" => (k_here; refine' mulT (by first | exact okL (by decide) (by decide) | exact okR (by decide) (by decide) | exact okLs (by assumption) (by assumption) | exact okRs (by assumption) (by assumption) | exact okLP (by assumption) (by assumption) (by assumption) | exact okRP (by assumption) (by assumption) (by assumption) | exact okL (by omega) (by omega) | exact okR (by omega) (by omega)) ?_; k_whole; intro wmt9 wmk9)
  k_with "binaryOp Pow int int" => (k_here; (first | refine' pow2 (by omega) (by omega) ?_ | refine' pow3 (by omega) (by omega) ?_ | refine' pow4 (by omega) (by omega) ?_); k_whole; intro wmt9 wmk9)
  k_with "binaryOp Add int int" => (k_here; refine' addT ?_; k_whole; intro wmt9 wmk9)
  k_with "binaryOp Sub int int" => (k_here; refine' subT ?_; k_whole; intro wmt9 wmk9)
  k_with "binaryOp LShift int int" => (k_here; refine' shl8 (by assumption) (by assumption) (by (simp only [Array.length_toList] at *; omega)) ?_; k_whole)
  k_with "binaryOp Mult int int" => (k_here; refine' mul_int ?_ (by first | exact okL (by decide) (by decide) | exact okR (by decide) (by decide) | exact okLs (by assumption) (by assumption) | exact okRs (by assumption) (by assumption) | exact okLP (by assumption) (by assumption) (by assumption) | exact okRP (by assumption) (by assumption) (by assumption) | exact okL (by omega) (by omega) | exact okR (by omega) (by omega) | exact egl_mul (by assumption) (by assumption) (by assumption) (by assumption) (by assumption)); k_whole)
  k_with "call ref" => (k_here; (with_reducible show wpAny _ _ (call (Value.ref 21) _) _ _ _); k_dflt (refine' callOk_use (by k_asm) (by k_asm) (by k_asm) (by k_asm) (by k_asm) (by first | exact rfl | assumption) (safe_ok) (by ktr_room) (by ktr_units) ?_; rintro wr9 wnw9 wh9 wtk9 wF9 wN9 ⟨wt9, we91, we92⟩; subst we91; subst we92; (try simp only [List.cons_append, List.nil_append] at wN9); (try k_sweep); (try dsimp only); (try k_fold)))
  unfold CallOk
  k_fill
  intro dp un gd cn cs a ccd cl outer A₀ base h₀ L m s Q E B F X NN T hk hd hu hret
  obtain ⟨hn1, hn2⟩ := hs
  have hn0 : 0 < n := by omega
  refine wpAny_call ?_
  k_dflt cell_enter
  k_with "exec While Compare cons nil" => k_while (fun _ lm hm low high => EglI x n lm hm low high) (fun _ _ _ low _ => low.toNat) "lm" "hm" "low" "high"
  k_with "state" => first | exact egl_start (by assumption) (by assumption) | exact egl_turn (by assumption) (by assumption) (by assumption) (by assumption) (by assumption) (by assumption)
  k_with "measure" => exact egl_less (by assumption) (by assumption)
  k_steps
  all_goals (refine' endS (Q := Q) (s := s) hret ?eF ?eN ?eS ?eE ?e1; (case eF => assumption); (case eN => assumption); (case eS => kcj_all); (case eE => first | exact egl_end (by assumption) (by assumption) (by assumption) (by assumption) | exact pinv_zero (by assumption)); (case e1 => omega))

end
section

theorem jdouble_ok {w mean mg mb p cv x y z P N A B Gx Gy} {t1 t2 t3 u1 u2 u3 u4 u5 u6 c c'} {news : Led}
   (hp : (p, tup3 x y z t1 t2 t3 c) ∈ news) (hc : (cv, tup6 P N A B Gx Gy u1 u2 u3 u4 u5 u6 c') ∈ news) (hs : (0 < P ∧ Sm P ∧ Sm A) ∧ Sm x ∧ Sm y ∧ Sm z) :
   CallOk w mean mg mb 49 1 [.ref p, .ref cv] news (Res3 (jdbl P A (x, y, z))) := by
  k_with_none
  k_with "binaryOp Mod int int" => (k_here; refine' modN (by first | decide | assumption | omega) ?_; k_whole; intro wmr wmt9 wmk9 wme wml wmu)
  k_with "binaryOp FloorDiv int int" => (k_here; refine' divN (by first | decide | assumption | omega) (by first | decide | omega) ?_; k_whole; intro wmr wmt9 wmk9 wme)
  k_with "binaryOp Mult int int" => (k_here; refine' mulT (by first | exact okL (by decide) (by decide) | exact okR (by decide) (by decide) | exact okLs (by assumption) (by assumption) | exact okRs (by assumption) (by assumption) | exact okLP (by assumption) (by assumption) (by assumption) | exact okRP (by assumption) (by assumption) (by assumption) | exact okL (by omega) (by omega) | exact okR (by omega) (by omega)) ?_; k_whole; intro wmt9 wmk9)
  k_with "binaryOp Pow int int" => (k_here; (first | refine' pow2 (by omega) (by omega) ?_ | refine' pow3 (by omega) (by omega) ?_ | refine' pow4 (by omega) (by omega) ?_); k_whole; intro wmt9 wmk9)
  k_with "binaryOp Add int int" => (k_here; refine' addT ?_; k_whole; intro wmt9 wmk9)
  k_with "binaryOp Sub int int" => (k_here; refine' subT ?_; k_whole; intro wmt9 wmk9)
  unfold CallOk
  k_fill
  intro dp un gd cn cs a ccd cl outer A₀ base h₀ L m s Q E B F X NN T hk hd hu hret
  obtain ⟨⟨hP0, ⟨hP1, hP2⟩, hA1, hA2⟩, ⟨hx1, hx2⟩, ⟨hy1, hy2⟩, hz1, hz2⟩ := hs
  refine wpAny_call ?_
  k_dflt cell_enter
  k_steps
  all_goals (refine' end3 (Q := Q) (s := s) hret ?eF ?eN ?eM ?eS ?eE ?e1 ?e2 ?e3; (case eF => assumption); (case eN => assumption); (case eM => k_mem); (case eS => kcj_all); (case eE => (simp only [jdbl, *]; try rfl)); (case e1 => first | exact sm_of (by assumption) (by assumption) (by assumption) | exact ⟨by assumption, by assumption⟩ | omega); (case e2 => first | exact sm_of (by assumption) (by assumption) (by assumption) | exact ⟨by assumption, by assumption⟩ | omega); (case e3 => first | exact sm_of (by assumption) (by assumption) (by assumption) | exact ⟨by assumption, by assumption⟩ | omega))



theorem jadd_ok {w mean mg mb p q cv x y z x' y' z' P N A B Gx Gy} {t1 t2 t3 t4 t5 t6 u1 u2 u3 u4 u5 u6 c c' c''} {news : Led}
   (hp : (p, tup3 x y z t1 t2 t3 c) ∈ news) (hq : (q, tup3 x' y' z' t4 t5 t6 c'') ∈ news) (hc : (cv, tup6 P N A B Gx Gy u1 u2 u3 u4 u5 u6 c') ∈ news) (hs : (0 < P ∧ Sm P ∧ Sm A) ∧ (Sm x ∧ Sm y ∧ Sm z) ∧ Sm x' ∧ Sm y' ∧ Sm z') :
   CallOk w mean mg mb 56 2 [.ref p, .ref q, .ref cv] news (Res3 (jadd P A (x, y, z) (x', y', z'))) := by
  k_with_none
  k_with "binaryOp Mod int int" => (k_here; refine' modN (by first | decide | assumption | omega) ?_; k_whole; intro wmr wmt9 wmk9 wme wml wmu)
  k_with "binaryOp FloorDiv int int" => (k_here; refine' divN (by first | decide | assumption | omega) (by first | decide | omega) ?_; k_whole; intro wmr wmt9 wmk9 wme)
  k_with "binaryOp Mult int int" => (k_here; refine' mulT (by first | exact okL (by decide) (by decide) | exact okR (by decide) (by decide) | exact okLs (by assumption) (by assumption) | exact okRs (by assumption) (by assumption) | exact okLP (by assumption) (by assumption) (by assumption) | exact okRP (by assumption) (by assumption) (by assumption) | exact okL (by omega) (by omega) | exact okR (by omega) (by omega)) ?_; k_whole; intro wmt9 wmk9)
  k_with "binaryOp Pow int int" => (k_here; (first | refine' pow2 (by omega) (by omega) ?_ | refine' pow3 (by omega) (by omega) ?_ | refine' pow4 (by omega) (by omega) ?_); k_whole; intro wmt9 wmk9)
  k_with "binaryOp Add int int" => (k_here; refine' addT ?_; k_whole; intro wmt9 wmk9)
  k_with "binaryOp Sub int int" => (k_here; refine' subT ?_; k_whole; intro wmt9 wmk9)
  k_with "call ref" => (k_here; (with_reducible show wpAny _ _ (call (Value.ref 49) _) _ _ _); k_dflt (refine' callOk_use (by k_asm) (by k_asm) (by k_asm) (by k_asm) (by k_asm) (by first | exact rfl | assumption) (jdouble_ok (by k_mem) (by k_mem) (by ((repeat' (first | assumption | with_reducible apply And.intro)); all_goals omega))) (by ktr_room) (by ktr_units) ?_; rintro wr9 wnw9 wh9 wtk9 wF9 wN9 ⟨wD9, wX9, wY9, wZ9, ws91, ws92, ws93, wd9, we9, ⟨wX9l, wX9u⟩, ⟨wY9l, wY9u⟩, ⟨wZ9l, wZ9u⟩, we91, we92⟩; subst we91; subst we92; (try simp only [List.cons_append, List.nil_append] at wN9); (try k_sweep); (try dsimp only); (try k_fold)))
  unfold CallOk
  k_fill
  intro dp un gd cn cs a ccd cl outer A₀ base h₀ L m s Q E B F X NN T hk hd hu hret
  obtain ⟨⟨hP0, ⟨hP1, hP2⟩, hA1, hA2⟩, ⟨⟨hx1, hx2⟩, ⟨hy1, hy2⟩, hz1, hz2⟩, ⟨hx1', hx2'⟩, ⟨hy1', hy2'⟩, hz1', hz2'⟩ := hs
  refine wpAny_call ?_
  k_dflt cell_enter
  k_steps
  all_goals (refine' end3 (Q := Q) (s := s) hret ?eF ?eN ?eM ?eS ?eE ?e1 ?e2 ?e3; (case eF => assumption); (case eN => assumption); (case eM => k_mem); (case eS => kcj_all); (case eE => (simp only [jadd, *]; try rfl)); (case e1 => first | exact sm_of (by assumption) (by assumption) (by assumption) | exact ⟨by assumption, by assumption⟩ | omega); (case e2 => first | exact sm_of (by assumption) (by assumption) (by assumption) | exact ⟨by assumption, by assumption⟩ | omega); (case e3 => first | exact sm_of (by assumption) (by assumption) (by assumption) | exact ⟨by assumption, by assumption⟩ | omega))

end
section



def JmulAt (w : World) (mean : ExcName → Option Value) (mg mb : Str → Option Value) (k : Nat) : Prop :=
  ∀ {a cv : Addr} {x y z P N A B Gx Gy n : Int} {t1 t2 t3 u1 u2 u3 u4 u5 u6 tn : Tok} {c c' : Nat} {news : Led},
   (a, tup3 x y z t1 t2 t3 c) ∈ news → (cv, tup6 P N A B Gx Gy u1 u2 u3 u4 u5 u6 c') ∈ news → (0 < P ∧ Sm P ∧ Sm A) ∧ (Sm x ∧ Sm y ∧ Sm z) ∧ (1 < N ∧ 0 ≤ n ∧ n < N ∧ n < 2 ^ k) →
   CallOk w mean mg mb 70 (k + 4) [.ref a, .int n tn, .ref cv] news (Res3 (jmul P N A (x, y, z) n))
theorem jmulAt_use {w mean mg mb k} (H : JmulAt w mean mg mb k) {a cv : Addr} {x y z P N A B Gx Gy n : Int} {t1 t2 t3 u1 u2 u3 u4 u5 u6 tn : Tok} {c c' : Nat} {news : Led}
   (ha : (a, tup3 x y z t1 t2 t3 c) ∈ news) (hc : (cv, tup6 P N A B Gx Gy u1 u2 u3 u4 u5 u6 c') ∈ news) (hs : (0 < P ∧ Sm P ∧ Sm A) ∧ (Sm x ∧ Sm y ∧ Sm z) ∧ (1 < N ∧ 0 ≤ n ∧ n < N ∧ n < 2 ^ k)) :
   CallOk w mean mg mb 70 (k + 4) [.ref a, .int n tn, .ref cv] news (Res3 (jmul P N A (x, y, z) n)) := H ha hc hs
theorem jmul_end6 {P N A x y z n r : Int} {T : Tri} (hr : n % N = r) (hT : T = jmul P N A (x, y, z) r) : T = jmul P N A (x, y, z) n := by subst hr hT; exact jmul_mod


theorem pow_two_succ (k : Nat) : (2 : Int) ^ (k + 1) = 2 * 2 ^ k := by rw [Int.pow_succ]; omega
/-- how a way of jmul ends -/
theorem jmul_end1 {P N A x y z n : Int} (h : y = 0) : ((0 : Int), (0 : Int), (1 : Int)) = jmul P N A (x, y, z) n := by subst h; exact jmul_inf.symm
theorem jmul_end2 {P N A x y z n : Int} (h : n = 0) : ((0 : Int), (0 : Int), (1 : Int)) = jmul P N A (x, y, z) n := by subst h; exact jmul_zero.symm
theorem jmul_end3 {P N A x y z n : Int} (h : n = 1) (hN : 1 < N) (hy : y ≠ 0) : (x, y, z) = jmul P N A (x, y, z) n := by subst h; exact (jmul_one hN hy).symm
theorem jmul_end4 {P N A x y z n r q : Int} {T U : Tri} (hy : y ≠ 0) (h0 : n ≠ 0) (h1 : n ≠ 1) (h2 : 0 ≤ n) (hN : n < N) (hr : n / 2 = r) (hq : n % 2 = q) (e : q = 0) (hT : T = jmul P N A (x, y, z) r) (hU : U = jdbl P A T) :
    U = jmul P N A (x, y, z) n := by subst hr hT hU e; exact (jmul_even hy (by omega) hN hq).symm
theorem jmul_end5 {P N A x y z n r q : Int} {T U V : Tri} (hy : y ≠ 0) (h0 : n ≠ 0) (h1 : n ≠ 1) (h2 : 0 ≤ n) (hN : n < N) (hr : n / 2 = r) (hq : n % 2 = q) (e : q = 1) (hT : T = jmul P N A (x, y, z) r) (hU : U = jdbl P A T) (hV : V = jadd P A U (x, y, z)) :
    V = jmul P N A (x, y, z) n := by subst hr hT hU hV e; exact (jmul_odd hy (by omega) hN hq).symm
theorem jmulAt (w mean mg mb) : ∀ k, JmulAt w mean mg mb k := by
  k_with_none
  k_with "binaryOp Mod int int" => (k_here; refine' modN (by first | decide | assumption | omega) ?_; k_whole; intro wmr wmt9 wmk9 wme wml wmu)
  k_with "binaryOp FloorDiv int int" => (k_here; refine' divN (by first | decide | assumption | omega) (by first | decide | omega) ?_; k_whole; intro wmr wmt9 wmk9 wme)
  k_with "binaryOp Mult int int" => (k_here; refine' mulT (by first | exact okL (by decide) (by decide) | exact okR (by decide) (by decide) | exact okLs (by assumption) (by assumption) | exact okRs (by assumption) (by assumption) | exact okLP (by assumption) (by assumption) (by assumption) | exact okRP (by assumption) (by assumption) (by assumption) | exact okL (by omega) (by omega) | exact okR (by omega) (by omega)) ?_; k_whole; intro wmt9 wmk9)
  k_with "binaryOp Pow int int" => (k_here; (first | refine' pow2 (by omega) (by omega) ?_ | refine' pow3 (by omega) (by omega) ?_ | refine' pow4 (by omega) (by omega) ?_); k_whole; intro wmt9 wmk9)
  k_with "binaryOp Add int int" => (k_here; refine' addT ?_; k_whole; intro wmt9 wmk9)
  k_with "binaryOp Sub int int" => (k_here; refine' subT ?_; k_whole; intro wmt9 wmk9)
  k_with "call ref" => (k_here; (with_reducible show wpAny _ _ (call (Value.ref 49) _) _ _ _); k_dflt (refine' callOk_use (by k_asm) (by k_asm) (by k_asm) (by k_asm) (by k_asm) (by first | exact rfl | assumption) (jdouble_ok (by k_mem) (by k_mem) (by ((repeat' (first | assumption | with_reducible apply And.intro)); all_goals omega))) (by ktr_room) (by ktr_units) ?_; rintro wr9 wnw9 wh9 wtk9 wF9 wN9 ⟨wD9, wX9, wY9, wZ9, ws91, ws92, ws93, wd9, we9, ⟨wX9l, wX9u⟩, ⟨wY9l, wY9u⟩, ⟨wZ9l, wZ9u⟩, we91, we92⟩; subst we91; subst we92; (try simp only [List.cons_append, List.nil_append] at wN9); (try k_sweep); (try dsimp only); (try k_fold)))
  k_with "call ref" => (k_here; (with_reducible show wpAny _ _ (call (Value.ref 56) _) _ _ _); k_dflt (refine' callOk_use (by k_asm) (by k_asm) (by k_asm) (by k_asm) (by k_asm) (by first | exact rfl | assumption) (jadd_ok (by k_mem) (by k_mem) (by k_mem) (by ((repeat' (first | assumption | with_reducible apply And.intro)); all_goals omega))) (by ktr_room) (by ktr_units) ?_; rintro wr9 wnw9 wh9 wtk9 wF9 wN9 ⟨wD9, wX9, wY9, wZ9, ws91, ws92, ws93, wd9, we9, ⟨wX9l, wX9u⟩, ⟨wY9l, wY9u⟩, ⟨wZ9l, wZ9u⟩, we91, we92⟩; subst we91; subst we92; (try simp only [List.cons_append, List.nil_append] at wN9); (try k_sweep); (try dsimp only); (try k_fold)))
  k_with "call ref" => (k_here; (with_reducible show wpAny _ _ (call (Value.ref 70) _) _ _ _); (rename JmulAt _ _ _ _ _ => wih9); k_dflt (refine' callOk_use (by k_asm) (by k_asm) (by k_asm) (by k_asm) (by k_asm) (by first | exact rfl | assumption) ((jmulAt_use wih9 (by k_mem) (by k_mem) (by ((repeat' (first | assumption | with_reducible apply And.intro)); all_goals omega)))) (by ktr_room) (by ktr_units) ?_; rintro wr9 wnw9 wh9 wtk9 wF9 wN9 ⟨wD9, wX9, wY9, wZ9, ws91, ws92, ws93, wd9, we9, ⟨wX9l, wX9u⟩, ⟨wY9l, wY9u⟩, ⟨wZ9l, wZ9u⟩, we91, we92⟩; subst we91; subst we92; (try simp only [List.cons_append, List.nil_append] at wN9); (try k_sweep); (try dsimp only); (try k_fold)))
  intro k
  induction k with
  | zero =>
    intro a cv x y z P N A B Gx Gy n t1 t2 t3 u1 u2 u3 u4 u5 u6 tn c c' news ha hc hs
    unfold CallOk
    k_fill
    intro dp un gd cn cs a9 ccd cl outer A₀ base h₀ L m s Q E B F X NN T hk hd hu hret
    obtain ⟨⟨hP0, ⟨hP1, hP2⟩, hA1, hA2⟩, ⟨⟨hx1, hx2⟩, ⟨hy1, hy2⟩, hz1, hz2⟩, hN, hn0, hn1, hn2⟩ := hs
    have hn : n = 0 := by have : (2 : Int) ^ 0 = 1 := rfl; omega
    refine wpAny_call ?_
    k_dflt cell_enter
    k_steps
    all_goals first | (exfalso; omega) | (refine' end3 (Q := Q) (s := s) hret ?eF ?eN ?eM ?eS ?eE ?e1 ?e2 ?e3; (case eF => assumption); (case eN => assumption); (case eM => k_mem); (case eS => kcj_all); (case eE => exact jmul_end2 hn); (case e1 => first | exact sm_of (by assumption) (by assumption) (by assumption) | exact ⟨by assumption, by assumption⟩ | omega); (case e2 => first | exact sm_of (by assumption) (by assumption) (by assumption) | exact ⟨by assumption, by assumption⟩ | omega); (case e3 => first | exact sm_of (by assumption) (by assumption) (by assumption) | exact ⟨by assumption, by assumption⟩ | omega))
  | succ k ih =>
    intro a cv x y z P N A B Gx Gy n t1 t2 t3 u1 u2 u3 u4 u5 u6 tn c c' news ha hc hs
    rw [pow_two_succ] at hs
    unfold CallOk
    k_fill
    intro dp un gd cn cs a9 ccd cl outer A₀ base h₀ L m s Q E B F X NN T hk hd hu hret
    obtain ⟨⟨hP0, ⟨hP1, hP2⟩, hA1, hA2⟩, ⟨⟨hx1, hx2⟩, ⟨hy1, hy2⟩, hz1, hz2⟩, hN, hn0, hn1, hn2⟩ := hs
    refine wpAny_call ?_
    k_dflt cell_enter
    k_steps
    all_goals first | (exfalso; omega) | (refine' end3 (Q := Q) (s := s) hret ?eF ?eN ?eM ?eS ?eE ?e1 ?e2 ?e3; (case eF => assumption); (case eN => assumption); (case eM => k_mem); (case eS => kcj_all); (case eE => first | exact jmul_end1 (by assumption) | exact jmul_end2 (by assumption) | exact jmul_end3 (by assumption) (by assumption) (by assumption) | exact jmul_end4 (by assumption) (by assumption) (by assumption) (by assumption) (by assumption) (by assumption) (by assumption) (by assumption) (by assumption) (by assumption) | exact jmul_end5 (by assumption) (by assumption) (by assumption) (by assumption) (by assumption) (by assumption) (by assumption) (by assumption) (by assumption) (by assumption) (by assumption) | (trace_state; fail "here")); (case e1 => first | exact sm_of (by assumption) (by assumption) (by assumption) | exact ⟨by assumption, by assumption⟩ | omega); (case e2 => first | exact sm_of (by assumption) (by assumption) (by assumption) | exact ⟨by assumption, by assumption⟩ | omega); (case e3 => first | exact sm_of (by assumption) (by assumption) (by assumption) | exact ⟨by assumption, by assumption⟩ | omega))

theorem jmul_ok {w mean mg mb} {a cv : Addr} {x y z P N A B Gx Gy n : Int} {t1 t2 t3 u1 u2 u3 u4 u5 u6 tn : Tok} {c c' : Nat} {news : Led}
   (ha : (a, tup3 x y z t1 t2 t3 c) ∈ news) (hc : (cv, tup6 P N A B Gx Gy u1 u2 u3 u4 u5 u6 c') ∈ news) (hs : (0 < P ∧ Sm P ∧ Sm A) ∧ (Sm x ∧ Sm y ∧ Sm z) ∧ (1 < N ∧ N < 2 ^ 20)) :
   CallOk w mean mg mb 70 26 [.ref a, .int n tn, .ref cv] news (Res3 (jmul P N A (x, y, z) n)) := by
  k_with_none
  k_with "binaryOp Mod int int" => (k_here; refine' modN (by first | decide | assumption | omega) ?_; k_whole; intro wmr wmt9 wmk9 wme wml wmu)
  k_with "binaryOp FloorDiv int int" => (k_here; refine' divN (by first | decide | assumption | omega) (by first | decide | omega) ?_; k_whole; intro wmr wmt9 wmk9 wme)
  k_with "binaryOp Mult int int" => (k_here; refine' mulT (by first | exact okL (by decide) (by decide) | exact okR (by decide) (by decide) | exact okLs (by assumption) (by assumption) | exact okRs (by assumption) (by assumption) | exact okLP (by assumption) (by assumption) (by assumption) | exact okRP (by assumption) (by assumption) (by assumption) | exact okL (by omega) (by omega) | exact okR (by omega) (by omega)) ?_; k_whole; intro wmt9 wmk9)
  k_with "binaryOp Pow int int" => (k_here; (first | refine' pow2 (by omega) (by omega) ?_ | refine' pow3 (by omega) (by omega) ?_ | refine' pow4 (by omega) (by omega) ?_); k_whole; intro wmt9 wmk9)
  k_with "binaryOp Add int int" => (k_here; refine' addT ?_; k_whole; intro wmt9 wmk9)
  k_with "binaryOp Sub int int" => (k_here; refine' subT ?_; k_whole; intro wmt9 wmk9)
  k_with "call ref" => (k_here; (with_reducible show wpAny _ _ (call (Value.ref 49) _) _ _ _); k_dflt (refine' callOk_use (by k_asm) (by k_asm) (by k_asm) (by k_asm) (by k_asm) (by first | exact rfl | assumption) (jdouble_ok (by k_mem) (by k_mem) (by ((repeat' (first | assumption | with_reducible apply And.intro)); all_goals omega))) (by ktr_room) (by ktr_units) ?_; rintro wr9 wnw9 wh9 wtk9 wF9 wN9 ⟨wD9, wX9, wY9, wZ9, ws91, ws92, ws93, wd9, we9, ⟨wX9l, wX9u⟩, ⟨wY9l, wY9u⟩, ⟨wZ9l, wZ9u⟩, we91, we92⟩; subst we91; subst we92; (try simp only [List.cons_append, List.nil_append] at wN9); (try k_sweep); (try dsimp only); (try k_fold)))
  k_with "call ref" => (k_here; (with_reducible show wpAny _ _ (call (Value.ref 56) _) _ _ _); k_dflt (refine' callOk_use (by k_asm) (by k_asm) (by k_asm) (by k_asm) (by k_asm) (by first | exact rfl | assumption) (jadd_ok (by k_mem) (by k_mem) (by k_mem) (by ((repeat' (first | assumption | with_reducible apply And.intro)); all_goals omega))) (by ktr_room) (by ktr_units) ?_; rintro wr9 wnw9 wh9 wtk9 wF9 wN9 ⟨wD9, wX9, wY9, wZ9, ws91, ws92, ws93, wd9, we9, ⟨wX9l, wX9u⟩, ⟨wY9l, wY9u⟩, ⟨wZ9l, wZ9u⟩, we91, we92⟩; subst we91; subst we92; (try simp only [List.cons_append, List.nil_append] at wN9); (try k_sweep); (try dsimp only); (try k_fold)))
  k_with "call ref" => (k_here; (with_reducible show wpAny _ _ (call (Value.ref 70) _) _ _ _); (rename JmulAt _ _ _ _ _ => wih9); k_dflt (refine' callOk_use (by k_asm) (by k_asm) (by k_asm) (by k_asm) (by k_asm) (by first | exact rfl | assumption) ((jmulAt_use wih9 (by k_mem) (by k_mem) (by ((repeat' (first | assumption | with_reducible apply And.intro)); all_goals omega)))) (by ktr_room) (by ktr_units) ?_; rintro wr9 wnw9 wh9 wtk9 wF9 wN9 ⟨wD9, wX9, wY9, wZ9, ws91, ws92, ws93, wd9, we9, ⟨wX9l, wX9u⟩, ⟨wY9l, wY9u⟩, ⟨wZ9l, wZ9u⟩, we91, we92⟩; subst we91; subst we92; (try simp only [List.cons_append, List.nil_append] at wN9); (try k_sweep); (try dsimp only); (try k_fold)))
  by_cases hin : 0 ≤ n ∧ n < N
  · exact (jmulAt w mean mg mb 20 ha hc (by omega)).more (by decide)
  have hat : JmulAt w mean mg mb 20 := jmulAt w mean mg mb 20
  unfold CallOk
  k_fill
  intro dp un gd cn cs a9 ccd cl outer A₀ base h₀ L m s Q E B F X NN T hk hd hu hret
  obtain ⟨⟨hP0, ⟨hP1, hP2⟩, hA1, hA2⟩, ⟨⟨hx1, hx2⟩, ⟨hy1, hy2⟩, hz1, hz2⟩, hN1, hN2⟩ := hs
  have hN0 : 0 < N := by omega
  refine wpAny_call ?_
  k_dflt cell_enter
  k_steps
  all_goals first | (exfalso; omega) | (refine' end3 (Q := Q) (s := s) hret ?eF ?eN ?eM ?eS ?eE ?e1 ?e2 ?e3; (case eF => assumption); (case eN => assumption); (case eM => k_mem); (case eS => kcj_all); (case eE => first | exact jmul_end1 (by assumption) | exact jmul_end2 (by assumption) | exact jmul_end6 (by assumption) (by assumption)); (case e1 => first | exact sm_of (by assumption) (by assumption) (by assumption) | exact ⟨by assumption, by assumption⟩ | omega); (case e2 => first | exact sm_of (by assumption) (by assumption) (by assumption) | exact ⟨by assumption, by assumption⟩ | omega); (case e3 => first | exact sm_of (by assumption) (by assumption) (by assumption) | exact ⟨by assumption, by assumption⟩ | omega))

end
section


theorem toJ_ok {w mean mg mb} {p : Addr} {x y : Int} {t1 t2 : Tok} {c : Nat} {news : Led} (hp : (p, tup2 x y t1 t2 c) ∈ news) (hs : Sm x ∧ Sm y) :
   CallOk w mean mg mb 42 1 [.ref p] news (Res3 (x, y, 1)) := by
  k_with_none
  k_with "binaryOp Mod int int" => (k_here; refine' modN (by first | decide | assumption | omega) ?_; k_whole; intro wmr wmt9 wmk9 wme wml wmu)
  k_with "binaryOp FloorDiv int int" => (k_here; refine' divN (by first | decide | assumption | omega) (by first | decide | omega) ?_; k_whole; intro wmr wmt9 wmk9 wme)
  k_with "binaryOp Mult int int" => (k_here; refine' mulT (by first | exact okL (by decide) (by decide) | exact okR (by decide) (by decide) | exact okLs (by assumption) (by assumption) | exact okRs (by assumption) (by assumption) | exact okLP (by assumption) (by assumption) (by assumption) | exact okRP (by assumption) (by assumption) (by assumption) | exact okL (by omega) (by omega) | exact okR (by omega) (by omega)) ?_; k_whole; intro wmt9 wmk9)
  k_with "binaryOp Pow int int" => (k_here; (first | refine' pow2 (by omega) (by omega) ?_ | refine' pow3 (by omega) (by omega) ?_ | refine' pow4 (by omega) (by omega) ?_); k_whole; intro wmt9 wmk9)
  k_with "binaryOp Add int int" => (k_here; refine' addT ?_; k_whole; intro wmt9 wmk9)
  k_with "binaryOp Sub int int" => (k_here; refine' subT ?_; k_whole; intro wmt9 wmk9)
  k_with "call ref" => (k_here; (with_reducible show wpAny _ _ (call (Value.ref 35) _) _ _ _); k_dflt (refine' callOk_use (by k_asm) (by k_asm) (by k_asm) (by k_asm) (by k_asm) (by first | exact rfl | assumption) (inv_ok (by ((repeat' (first | assumption | with_reducible apply And.intro)); all_goals omega))) (by ktr_room) (by ktr_units) ?_; rintro wr9 wnw9 wh9 wtk9 wF9 wN9 ⟨wy9, wt9, we9, ⟨wy9l, wy9u⟩, we91, we92⟩; subst we91; subst we92; (try simp only [List.cons_append, List.nil_append] at wN9); (try k_sweep); (try dsimp only); (try k_fold)))
  k_with "call ref" => (k_here; (with_reducible show wpAny _ _ (call (Value.ref 28) _) _ _ _); k_dflt (refine' callOk_use (by k_asm) (by k_asm) (by k_asm) (by k_asm) (by k_asm) (by first | exact rfl | assumption) (bytes_ok (by first | assumption | omega)) (by ktr_room) (by ktr_units) ?_; rintro wr9 wnw9 wh9 wtk9 wF9 wN9 ⟨wt9, we91, we92⟩; subst we91; subst we92; (try simp only [List.cons_append, List.nil_append] at wN9); (try k_sweep); (try dsimp only); (try k_fold)))
  unfold CallOk
  k_fill
  intro dp un gd cn cs a ccd cl outer A₀ base h₀ L m s Q E B F X NN T hk hd hu hret
  obtain ⟨⟨hx1, hx2⟩, hy1, hy2⟩ := hs
  refine wpAny_call ?_
  k_dflt cell_enter
  k_steps
  all_goals (refine' end3 (Q := Q) (s := s) hret ?eF ?eN ?eM ?eS ?eE ?e1 ?e2 ?e3; (case eF => assumption); (case eN => assumption); (case eM => k_mem); (case eS => kcj_all); (case eE => rfl); (case e1 => first | exact sm_of (by assumption) (by assumption) (by assumption) | exact ⟨by assumption, by assumption⟩ | omega); (case e2 => first | exact sm_of (by assumption) (by assumption) (by assumption) | exact ⟨by assumption, by assumption⟩ | omega); (case e3 => first | exact sm_of (by assumption) (by assumption) (by assumption) | exact ⟨by assumption, by assumption⟩ | omega))
theorem fromJ_end {P x y z i X Y : Int} (hi : i = pinv z P) (hX : x * i ^ 2 % P = X) (hY : y * i ^ 3 % P = Y) : (X, Y) = fromJ P (x, y, z) := by subst hi hX hY; rfl
theorem fromJ_ok {w mean mg mb} {p cv : Addr} {x y z P N A B Gx Gy : Int} {t1 t2 t3 u1 u2 u3 u4 u5 u6 : Tok} {c c' : Nat} {news : Led}
   (hp : (p, tup3 x y z t1 t2 t3 c) ∈ news) (hc : (cv, tup6 P N A B Gx Gy u1 u2 u3 u4 u5 u6 c') ∈ news) (hs : (1 < P ∧ Sm P) ∧ Sm x ∧ Sm y ∧ Sm z) :
   CallOk w mean mg mb 63 2 [.ref p, .ref cv] news (Res2 (fromJ P (x, y, z))) := by
  k_with_none
  k_with "binaryOp Mod int int" => (k_here; refine' modN (by first | decide | assumption | omega) ?_; k_whole; intro wmr wmt9 wmk9 wme wml wmu)
  k_with "binaryOp FloorDiv int int" => (k_here; refine' divN (by first | decide | assumption | omega) (by first | decide | omega) ?_; k_whole; intro wmr wmt9 wmk9 wme)
  k_with "binaryOp Mult int int" => (k_here; refine' mulT (by first | exact okL (by decide) (by decide) | exact okR (by decide) (by decide) | exact okLs (by assumption) (by assumption) | exact okRs (by assumption) (by assumption) | exact okLP (by assumption) (by assumption) (by assumption) | exact okRP (by assumption) (by assumption) (by assumption) | exact okL (by omega) (by omega) | exact okR (by omega) (by omega)) ?_; k_whole; intro wmt9 wmk9)
  k_with "binaryOp Pow int int" => (k_here; (first | refine' pow2 (by omega) (by omega) ?_ | refine' pow3 (by omega) (by omega) ?_ | refine' pow4 (by omega) (by omega) ?_); k_whole; intro wmt9 wmk9)
  k_with "binaryOp Add int int" => (k_here; refine' addT ?_; k_whole; intro wmt9 wmk9)
  k_with "binaryOp Sub int int" => (k_here; refine' subT ?_; k_whole; intro wmt9 wmk9)
  k_with "call ref" => (k_here; (with_reducible show wpAny _ _ (call (Value.ref 35) _) _ _ _); k_dflt (refine' callOk_use (by k_asm) (by k_asm) (by k_asm) (by k_asm) (by k_asm) (by first | exact rfl | assumption) (inv_ok (by ((repeat' (first | assumption | with_reducible apply And.intro)); all_goals omega))) (by ktr_room) (by ktr_units) ?_; rintro wr9 wnw9 wh9 wtk9 wF9 wN9 ⟨wy9, wt9, we9, ⟨wy9l, wy9u⟩, we91, we92⟩; subst we91; subst we92; (try simp only [List.cons_append, List.nil_append] at wN9); (try k_sweep); (try dsimp only); (try k_fold)))
  k_with "call ref" => (k_here; (with_reducible show wpAny _ _ (call (Value.ref 28) _) _ _ _); k_dflt (refine' callOk_use (by k_asm) (by k_asm) (by k_asm) (by k_asm) (by k_asm) (by first | exact rfl | assumption) (bytes_ok (by first | assumption | omega)) (by ktr_room) (by ktr_units) ?_; rintro wr9 wnw9 wh9 wtk9 wF9 wN9 ⟨wt9, we91, we92⟩; subst we91; subst we92; (try simp only [List.cons_append, List.nil_append] at wN9); (try k_sweep); (try dsimp only); (try k_fold)))
  unfold CallOk
  k_fill
  intro dp un gd cn cs a ccd cl outer A₀ base h₀ L m s Q E B F X NN T hk hd hu hret
  obtain ⟨⟨hP0, hP1, hP2⟩, ⟨hx1, hx2⟩, ⟨hy1, hy2⟩, hz1, hz2⟩ := hs
  refine wpAny_call ?_
  k_dflt cell_enter
  k_steps
  all_goals (refine' end2 (Q := Q) (s := s) hret ?eF ?eN ?eM ?eS ?eE ?e1 ?e2; (case eF => assumption); (case eN => assumption); (case eM => k_mem); (case eS => kcj_all); (case eE => exact fromJ_end (by assumption) (by assumption) (by assumption)); (case e1 => first | exact sm_of (by assumption) (by assumption) (by assumption) | exact ⟨by assumption, by assumption⟩ | omega); (case e2 => first | exact sm_of (by assumption) (by assumption) (by assumption) | exact ⟨by assumption, by assumption⟩ | omega))



theorem mult_ok {w mean mg mb} {p cv : Addr} {x y n P N A B Gx Gy : Int} {t1 t2 tn u1 u2 u3 u4 u5 u6 : Tok} {c c' : Nat} {news : Led}
   (hp : (p, tup2 x y t1 t2 c) ∈ news) (hc : (cv, tup6 P N A B Gx Gy u1 u2 u3 u4 u5 u6 c') ∈ news) (hs : (1 < P ∧ Sm P ∧ Sm A) ∧ (Sm x ∧ Sm y) ∧ (1 < N ∧ N < 2 ^ 20)) :
   CallOk w mean mg mb 77 28 [.ref p, .int n tn, .ref cv] news (Res2 (pmul P N A x y n)) := by
  k_with_none
  k_with "binaryOp Mod int int" => (k_here; refine' modN (by first | decide | assumption | omega) ?_; k_whole; intro wmr wmt9 wmk9 wme wml wmu)
  k_with "binaryOp FloorDiv int int" => (k_here; refine' divN (by first | decide | assumption | omega) (by first | decide | omega) ?_; k_whole; intro wmr wmt9 wmk9 wme)
  k_with "binaryOp Mult int int" => (k_here; refine' mulT (by first | exact okL (by decide) (by decide) | exact okR (by decide) (by decide) | exact okLs (by assumption) (by assumption) | exact okRs (by assumption) (by assumption) | exact okLP (by assumption) (by assumption) (by assumption) | exact okRP (by assumption) (by assumption) (by assumption) | exact okL (by omega) (by omega) | exact okR (by omega) (by omega)) ?_; k_whole; intro wmt9 wmk9)
  k_with "binaryOp Pow int int" => (k_here; (first | refine' pow2 (by omega) (by omega) ?_ | refine' pow3 (by omega) (by omega) ?_ | refine' pow4 (by omega) (by omega) ?_); k_whole; intro wmt9 wmk9)
  k_with "binaryOp Add int int" => (k_here; refine' addT ?_; k_whole; intro wmt9 wmk9)
  k_with "binaryOp Sub int int" => (k_here; refine' subT ?_; k_whole; intro wmt9 wmk9)
  k_with "call ref" => (k_here; (with_reducible show wpAny _ _ (call (Value.ref 35) _) _ _ _); k_dflt (refine' callOk_use (by k_asm) (by k_asm) (by k_asm) (by k_asm) (by k_asm) (by first | exact rfl | assumption) (inv_ok (by ((repeat' (first | assumption | with_reducible apply And.intro)); all_goals omega))) (by ktr_room) (by ktr_units) ?_; rintro wr9 wnw9 wh9 wtk9 wF9 wN9 ⟨wy9, wt9, we9, ⟨wy9l, wy9u⟩, we91, we92⟩; subst we91; subst we92; (try simp only [List.cons_append, List.nil_append] at wN9); (try k_sweep); (try dsimp only); (try k_fold)))
  k_with "call ref" => (k_here; (with_reducible show wpAny _ _ (call (Value.ref 28) _) _ _ _); k_dflt (refine' callOk_use (by k_asm) (by k_asm) (by k_asm) (by k_asm) (by k_asm) (by first | exact rfl | assumption) (bytes_ok (by first | assumption | omega)) (by ktr_room) (by ktr_units) ?_; rintro wr9 wnw9 wh9 wtk9 wF9 wN9 ⟨wt9, we91, we92⟩; subst we91; subst we92; (try simp only [List.cons_append, List.nil_append] at wN9); (try k_sweep); (try dsimp only); (try k_fold)))
  k_with "call ref" => (k_here; (with_reducible show wpAny _ _ (call (Value.ref 70) _) _ _ _); k_dflt (refine' callOk_use (by k_asm) (by k_asm) (by k_asm) (by k_asm) (by k_asm) (by first | exact rfl | assumption) (jmul_ok (by k_mem) (by k_mem) (by ((repeat' (first | assumption | with_reducible apply And.intro)); all_goals omega))) (by ktr_room) (by ktr_units) ?_; rintro wr9 wnw9 wh9 wtk9 wF9 wN9 ⟨wD9, wX9, wY9, wZ9, ws91, ws92, ws93, wd9, we9, ⟨wX9l, wX9u⟩, ⟨wY9l, wY9u⟩, ⟨wZ9l, wZ9u⟩, we91, we92⟩; subst we91; subst we92; (try simp only [List.cons_append, List.nil_append] at wN9); (try k_sweep); (try dsimp only); (try k_fold)))
  k_with "call ref" => (k_here; (with_reducible show wpAny _ _ (call (Value.ref 42) _) _ _ _); k_dflt (refine' callOk_use (by k_asm) (by k_asm) (by k_asm) (by k_asm) (by k_asm) (by first | exact rfl | assumption) (toJ_ok (by k_mem) (by ((repeat' (first | assumption | with_reducible apply And.intro)); all_goals omega))) (by ktr_room) (by ktr_units) ?_; rintro wr9 wnw9 wh9 wtk9 wF9 wN9 ⟨wD9, wX9, wY9, wZ9, ws91, ws92, ws93, wd9, we9, ⟨wX9l, wX9u⟩, ⟨wY9l, wY9u⟩, ⟨wZ9l, wZ9u⟩, we91, we92⟩; subst we91; subst we92; (try simp only [List.cons_append, List.nil_append] at wN9); (try k_sweep); (try dsimp only); (try k_fold)))
  k_with "call ref" => (k_here; (with_reducible show wpAny _ _ (call (Value.ref 63) _) _ _ _); k_dflt (refine' callOk_use (by k_asm) (by k_asm) (by k_asm) (by k_asm) (by k_asm) (by first | exact rfl | assumption) (fromJ_ok (by k_mem) (by k_mem) (by ((repeat' (first | assumption | with_reducible apply And.intro)); all_goals omega))) (by ktr_room) (by ktr_units) ?_; rintro wr9 wnw9 wh9 wtk9 wF9 wN9 ⟨wD9, wX9, wY9, ws91, ws92, wd9, we9, ⟨wX9l, wX9u⟩, ⟨wY9l, wY9u⟩, we91, we92⟩; subst we91; subst we92; (try simp only [List.cons_append, List.nil_append] at wN9); (try k_sweep); (try dsimp only); (try k_fold)))
  unfold CallOk
  k_fill
  intro dp un gd cn cs a ccd cl outer A₀ base h₀ L m s Q E B F X NN T hk hd hu hret
  obtain ⟨⟨hP0, ⟨hP1, hP2⟩, hA1, hA2⟩, ⟨⟨hx1, hx2⟩, hy1, hy2⟩, hN1, hN2⟩ := hs
  refine wpAny_call ?_
  k_dflt cell_enter
  k_steps
  all_goals (refine' end2 (Q := Q) (s := s) hret ?eF ?eN ?eM ?eS ?eE ?e1 ?e2; (case eF => assumption); (case eN => assumption); (case eM => k_mem); (case eS => kcj_all); (case eE => (simp only [pmul, *]; try rfl)); (case e1 => first | exact sm_of (by assumption) (by assumption) (by assumption) | exact ⟨by assumption, by assumption⟩ | omega); (case e2 => first | exact sm_of (by assumption) (by assumption) (by assumption) | exact ⟨by assumption, by assumption⟩ | omega))


theorem pub_ok {w mean mg mb} {cv : Addr} {arr : Array UInt8} {P N A B Gx Gy : Int} {tb u1 u2 u3 u4 u5 u6 : Tok} {c' : Nat} {news : Led}
   (hc : (cv, tup6 P N A B Gx Gy u1 u2 u3 u4 u5 u6 c') ∈ news) (hs : (1 < P ∧ Sm P ∧ Sm A) ∧ (Sm Gx ∧ Sm Gy) ∧ (1 < N ∧ N < 2 ^ 20) ∧ arr.size ≤ 64) :
   CallOk w mean mg mb 84 30 [.bytes arr tb, .ref cv] news (Res2 (pmul P N A Gx Gy (bval (KBw.bInts arr)))) := by
  k_with_none
  k_with "binaryOp Mod int int" => (k_here; refine' modN (by first | decide | assumption | omega) ?_; k_whole; intro wmr wmt9 wmk9 wme wml wmu)
  k_with "binaryOp FloorDiv int int" => (k_here; refine' divN (by first | decide | assumption | omega) (by first | decide | omega) ?_; k_whole; intro wmr wmt9 wmk9 wme)
  k_with "binaryOp Mult int int" => (k_here; refine' mulT (by first | exact okL (by decide) (by decide) | exact okR (by decide) (by decide) | exact okLs (by assumption) (by assumption) | exact okRs (by assumption) (by assumption) | exact okLP (by assumption) (by assumption) (by assumption) | exact okRP (by assumption) (by assumption) (by assumption) | exact okL (by omega) (by omega) | exact okR (by omega) (by omega)) ?_; k_whole; intro wmt9 wmk9)
  k_with "binaryOp Pow int int" => (k_here; (first | refine' pow2 (by omega) (by omega) ?_ | refine' pow3 (by omega) (by omega) ?_ | refine' pow4 (by omega) (by omega) ?_); k_whole; intro wmt9 wmk9)
  k_with "binaryOp Add int int" => (k_here; refine' addT ?_; k_whole; intro wmt9 wmk9)
  k_with "binaryOp Sub int int" => (k_here; refine' subT ?_; k_whole; intro wmt9 wmk9)
  k_with "call ref" => (k_here; (with_reducible show wpAny _ _ (call (Value.ref 35) _) _ _ _); k_dflt (refine' callOk_use (by k_asm) (by k_asm) (by k_asm) (by k_asm) (by k_asm) (by first | exact rfl | assumption) (inv_ok (by ((repeat' (first | assumption | with_reducible apply And.intro)); all_goals omega))) (by ktr_room) (by ktr_units) ?_; rintro wr9 wnw9 wh9 wtk9 wF9 wN9 ⟨wy9, wt9, we9, ⟨wy9l, wy9u⟩, we91, we92⟩; subst we91; subst we92; (try simp only [List.cons_append, List.nil_append] at wN9); (try k_sweep); (try dsimp only); (try k_fold)))
  k_with "call ref" => (k_here; (with_reducible show wpAny _ _ (call (Value.ref 28) _) _ _ _); k_dflt (refine' callOk_use (by k_asm) (by k_asm) (by k_asm) (by k_asm) (by k_asm) (by first | exact rfl | assumption) (bytes_ok (by first | assumption | omega)) (by ktr_room) (by ktr_units) ?_; rintro wr9 wnw9 wh9 wtk9 wF9 wN9 ⟨wt9, we91, we92⟩; subst we91; subst we92; (try simp only [List.cons_append, List.nil_append] at wN9); (try k_sweep); (try dsimp only); (try k_fold)))
  k_with "call ref" => (k_here; (with_reducible show wpAny _ _ (call (Value.ref 70) _) _ _ _); k_dflt (refine' callOk_use (by k_asm) (by k_asm) (by k_asm) (by k_asm) (by k_asm) (by first | exact rfl | assumption) (jmul_ok (by k_mem) (by k_mem) (by ((repeat' (first | assumption | with_reducible apply And.intro)); all_goals omega))) (by ktr_room) (by ktr_units) ?_; rintro wr9 wnw9 wh9 wtk9 wF9 wN9 ⟨wD9, wX9, wY9, wZ9, ws91, ws92, ws93, wd9, we9, ⟨wX9l, wX9u⟩, ⟨wY9l, wY9u⟩, ⟨wZ9l, wZ9u⟩, we91, we92⟩; subst we91; subst we92; (try simp only [List.cons_append, List.nil_append] at wN9); (try k_sweep); (try dsimp only); (try k_fold)))
  k_with "call ref" => (k_here; (with_reducible show wpAny _ _ (call (Value.ref 42) _) _ _ _); k_dflt (refine' callOk_use (by k_asm) (by k_asm) (by k_asm) (by k_asm) (by k_asm) (by first | exact rfl | assumption) (toJ_ok (by k_mem) (by ((repeat' (first | assumption | with_reducible apply And.intro)); all_goals omega))) (by ktr_room) (by ktr_units) ?_; rintro wr9 wnw9 wh9 wtk9 wF9 wN9 ⟨wD9, wX9, wY9, wZ9, ws91, ws92, ws93, wd9, we9, ⟨wX9l, wX9u⟩, ⟨wY9l, wY9u⟩, ⟨wZ9l, wZ9u⟩, we91, we92⟩; subst we91; subst we92; (try simp only [List.cons_append, List.nil_append] at wN9); (try k_sweep); (try dsimp only); (try k_fold)))
  k_with "call ref" => (k_here; (with_reducible show wpAny _ _ (call (Value.ref 63) _) _ _ _); k_dflt (refine' callOk_use (by k_asm) (by k_asm) (by k_asm) (by k_asm) (by k_asm) (by first | exact rfl | assumption) (fromJ_ok (by k_mem) (by k_mem) (by ((repeat' (first | assumption | with_reducible apply And.intro)); all_goals omega))) (by ktr_room) (by ktr_units) ?_; rintro wr9 wnw9 wh9 wtk9 wF9 wN9 ⟨wD9, wX9, wY9, ws91, ws92, wd9, we9, ⟨wX9l, wX9u⟩, ⟨wY9l, wY9u⟩, we91, we92⟩; subst we91; subst we92; (try simp only [List.cons_append, List.nil_append] at wN9); (try k_sweep); (try dsimp only); (try k_fold)))
  k_with "call ref" => (k_here; (with_reducible show wpAny _ _ (call (Value.ref 77) _) _ _ _); k_dflt (refine' callOk_use (by k_asm) (by k_asm) (by k_asm) (by k_asm) (by k_asm) (by first | exact rfl | assumption) (mult_ok (by k_mem) (by k_mem) (by ((repeat' (first | assumption | with_reducible apply And.intro)); all_goals omega))) (by ktr_room) (by ktr_units) ?_; rintro wr9 wnw9 wh9 wtk9 wF9 wN9 ⟨wD9, wX9, wY9, ws91, ws92, wd9, we9, ⟨wX9l, wX9u⟩, ⟨wY9l, wY9u⟩, we91, we92⟩; subst we91; subst we92; (try simp only [List.cons_append, List.nil_append] at wN9); (try k_sweep); (try dsimp only); (try k_fold)))
  unfold CallOk
  k_fill
  intro dp un gd cn cs a ccd cl outer A₀ base h₀ L m s Q E B F X NN T hk hd hu hret
  obtain ⟨⟨hP0, ⟨hP1, hP2⟩, hA1, hA2⟩, ⟨⟨hx1, hx2⟩, hy1, hy2⟩, ⟨hN1, hN2⟩, hb⟩ := hs
  refine wpAny_call ?_
  k_dflt cell_enter
  k_steps
  all_goals (refine' end2 (Q := Q) (s := s) hret ?eF ?eN ?eM ?eS ?eE ?e1 ?e2; (case eF => assumption); (case eN => assumption); (case eM => k_mem); (case eS => kcj_all); (case eE => assumption); (case e1 => first | exact sm_of (by assumption) (by assumption) (by assumption) | exact ⟨by assumption, by assumption⟩ | omega); (case e2 => first | exact sm_of (by assumption) (by assumption) (by assumption) | exact ⟨by assumption, by assumption⟩ | omega))

end
section




theorem sign_ok {w mean mg mb} {cv : Addr} {ma pa : Array UInt8} {k P N A B Gx Gy : Int} {tm tp tk0 u1 u2 u3 u4 u5 u6 : Tok} {c' : Nat} {news : Led}
   (hc : (cv, tup6 P N A B Gx Gy u1 u2 u3 u4 u5 u6 c') ∈ news) (hs : (1 < P ∧ Sm P ∧ Sm A) ∧ (Sm Gx ∧ Sm Gy) ∧ (1 < N ∧ N < 2 ^ 20) ∧ ma.size ≤ 64 ∧ pa.size ≤ 64) :
   CallOk w mean mg mb 91 30 [.bytes ma tm, .bytes pa tp, .int k tk0, .ref cv] news (Res3 (psign P N A Gx Gy (bval (KBw.bInts ma)) (bval (KBw.bInts pa)) k)) := by
  k_with_none
  k_with "binaryOp Mod int int" => (k_here; refine' modN (by first | decide | assumption | omega) ?_; k_whole; intro wmr wmt9 wmk9 wme wml wmu)
  k_with "binaryOp FloorDiv int int" => (k_here; refine' divN (by first | decide | assumption | omega) (by first | decide | omega) ?_; k_whole; intro wmr wmt9 wmk9 wme)
  k_with "binaryOp Mult int int" => (k_here; refine' mulT (by first | exact okL (by decide) (by decide) | exact okR (by decide) (by decide) | exact okLs (by assumption) (by assumption) | exact okRs (by assumption) (by assumption) | exact okLP (by assumption) (by assumption) (by assumption) | exact okRP (by assumption) (by assumption) (by assumption) | exact okL (by omega) (by omega) | exact okR (by omega) (by omega)) ?_; k_whole; intro wmt9 wmk9)
  k_with "binaryOp Pow int int" => (k_here; (first | refine' pow2 (by omega) (by omega) ?_ | refine' pow3 (by omega) (by omega) ?_ | refine' pow4 (by omega) (by omega) ?_); k_whole; intro wmt9 wmk9)
  k_with "binaryOp Add int int" => (k_here; refine' addT ?_; k_whole; intro wmt9 wmk9)
  k_with "binaryOp Sub int int" => (k_here; refine' subT ?_; k_whole; intro wmt9 wmk9)
  k_with "binaryOp BitXor int int" => (k_here; (first | refine' xor0 (by omega) (by omega) ?_ | refine' xor1 (by omega) (by omega) ?_ | refine' xorB (by omega) (by omega) (by omega) (by omega) ?_); k_whole; intro wxb wxt9 wxk9 wxe wxl wxu)
  k_with "call ref" => (k_here; (with_reducible show wpAny _ _ (call (Value.ref 35) _) _ _ _); k_dflt (refine' callOk_use (by k_asm) (by k_asm) (by k_asm) (by k_asm) (by k_asm) (by first | exact rfl | assumption) (inv_ok (by ((repeat' (first | assumption | with_reducible apply And.intro)); all_goals omega))) (by ktr_room) (by ktr_units) ?_; rintro wr9 wnw9 wh9 wtk9 wF9 wN9 ⟨wy9, wt9, we9, ⟨wy9l, wy9u⟩, we91, we92⟩; subst we91; subst we92; (try simp only [List.cons_append, List.nil_append] at wN9); (try k_sweep); (try dsimp only); (try k_fold)))
  k_with "call ref" => (k_here; (with_reducible show wpAny _ _ (call (Value.ref 28) _) _ _ _); k_dflt (refine' callOk_use (by k_asm) (by k_asm) (by k_asm) (by k_asm) (by k_asm) (by first | exact rfl | assumption) (bytes_ok (by first | assumption | omega)) (by ktr_room) (by ktr_units) ?_; rintro wr9 wnw9 wh9 wtk9 wF9 wN9 ⟨wt9, we91, we92⟩; subst we91; subst we92; (try simp only [List.cons_append, List.nil_append] at wN9); (try k_sweep); (try dsimp only); (try k_fold)))
  k_with "call ref" => (k_here; (with_reducible show wpAny _ _ (call (Value.ref 77) _) _ _ _); k_dflt (refine' callOk_use (by k_asm) (by k_asm) (by k_asm) (by k_asm) (by k_asm) (by first | exact rfl | assumption) (mult_ok (by k_mem) (by k_mem) (by ((repeat' (first | assumption | with_reducible apply And.intro)); all_goals omega))) (by ktr_room) (by ktr_units) ?_; rintro wr9 wnw9 wh9 wtk9 wF9 wN9 ⟨wD9, wX9, wY9, ws91, ws92, wd9, we9, ⟨wX9l, wX9u⟩, ⟨wY9l, wY9u⟩, we91, we92⟩; subst we91; subst we92; (try simp only [List.cons_append, List.nil_append] at wN9); (try k_sweep); (try dsimp only); (try k_fold)))
  unfold CallOk
  k_fill
  intro dp un gd cn cs a ccd cl outer A₀ base h₀ L m s Q E B F X NN T hk hd hu hret
  obtain ⟨⟨hP0, ⟨hP1, hP2⟩, hA1, hA2⟩, ⟨⟨hx1, hx2⟩, hy1, hy2⟩, ⟨hN1, hN2⟩, hb1, hb2⟩ := hs
  refine wpAny_call ?_
  k_dflt cell_enter
  k_steps
  all_goals first | (exfalso; omega) | (refine' end3 (Q := Q) (s := s) hret ?eF ?eN ?eM ?eS ?eE ?e1 ?e2 ?e3; (case eF => assumption); (case eN => assumption); (case eM => k_mem); (case eS => kcj_all); (case eE => (first | exact psign_lo (by assumption) (by assumption) (by assumption) (by assumption) (by assumption) (by assumption) | exact psign_hi (by assumption) (by assumption) (by assumption) (by assumption) (by assumption) (by assumption))); (case e1 => first | exact sm_of (by assumption) (by assumption) (by assumption) | exact ⟨by assumption, by assumption⟩ | omega); (case e2 => first | exact sm_of (by assumption) (by assumption) (by assumption) | exact ⟨by assumption, by assumption⟩ | omega); (case e3 => first | exact sm_of (by assumption) (by assumption) (by assumption) | exact ⟨by assumption, by assumption⟩ | omega))

end
section
theorem named_lt {l : Addr} {news : Led} {P : Prop} (_h : ∀ p ∈ news, p.1 < l) (h : ∀ y, y = l → P) : P := h l rfl
/-- how a turn of a for ends -/
def ForEnd (h₀ : Heap) (L : Addr) (J : (Str → Option Value) → Led → Prop) (I : Addr) (oI : Obj) (s : Shared) (Q : Flow → Shared → Prop) (f : Flow) (s₂ : Shared) : Prop :=
  match f with
  | .ret v => Q (.ret v) s₂
  | .brk => Q .next s₂
  | _ => ∃ h' tk m' nx, s₂ = { s with heap := h', toks := tk } ∧ Fr h₀ L h' m' ∧ News h₀ L h' ((I, oI) :: nx) ∧ (∀ p ∈ nx, p.1 ≠ I) ∧ J m' nx
theorem ForEnd.intro {h₀ h' : Heap} {L : Addr} {J : (Str → Option Value) → Led → Prop} {I : Addr} {oI : Obj} {s : Shared} {Q : Flow → Shared → Prop} {m' : Str → Option Value} {nx led : Led} {tk : Nat}
    (F : Fr h₀ L h' m') (N : News h₀ L h' led) (hi : (I, oI) ∈ led) (hs : ∀ p ∈ nx, p ∈ led) (hn : ∀ p ∈ nx, p.1 ≠ I) (hJ : J m' nx) : ForEnd h₀ L J I oI s Q .next { s with heap := h', toks := tk } :=
  ⟨h', tk, m', nx, rfl, F, fun p hp => by
    rcases List.mem_cons.mp hp with rfl | hp
    · exact N _ hi
    · exact N _ (hs p hp), hn, hJ⟩
section
variable {prog : Program} {w : World} {A : Around} {E : Value → Shared → Prop} {s : Shared} {env : Env} {h₀ : Heap} {x : Str} {body : List Stmt} {Q : Flow → Shared → Prop}
/-- a for over a range, by an invariant over the turn's number, the frame's names and the ledger -/
theorem range_own {r : Addr} {a₀ b₀ : Int} {t₀ u₀ v₀ : Tok} {n : Nat} {m₀ : Str → Option Value} {news : Led} (J : Nat → (Str → Option Value) → Led → Prop)
    (hh : A.handled = none) (hr : IsRange s.heap r a₀ b₀ 1 t₀ u₀ v₀) (hsmall : Builtin.Range.small a₀ b₀ 1 = true) (hn : Builtin.Range.rangeSize a₀ b₀ 1 = (n : Int)) (F : Fr h₀ env.locals s.heap m₀) (N : News h₀ env.locals s.heap news) (hj : J 0 m₀ news)
    (turn : ∀ i t m₁ nx h tk I oI, i < n → J i m₁ nx → (∀ p ∈ nx, p.1 ≠ I) → Fr h₀ env.locals h (fun y => if y = x then some (.int (a₀ + (i : Nat)) t) else m₁ y) → News h₀ env.locals h ((I, oI) :: nx) →
      wpAny (model prog w) A (execs body env) (ForEnd h₀ env.locals (J (i + 1)) I oI { s with heap := h, toks := tk } Q) E { s with heap := h, toks := tk })
    (done : ∀ m₁ nx h tk, J n m₁ nx → Fr h₀ env.locals h m₁ → News h₀ env.locals h nx → Q .next { s with heap := h, toks := tk }) :
    wpAny (model prog w) A (pyIter (.ref r)) (fun it s₂ => LoopAtV prog w A h₀ env x body Q E it s₂) E s := by
  refine wpAny_pyIter_range hr hsmall ?_
  have hI0 : h₀.get? s.heap.objs.size = none := next_is_new F
  refine ⟨_, _, _, n, _, _, m₀, news, J, rfl, (Walks.range hh s.heap.objs.size a₀ 1 n).bound, ?_, ?_, ?_, ?_, F.push _, fun p hp => ⟨Heap.get?_push_of_some _ (N p hp).1, (N p hp).2⟩, hj, ?_, ?_⟩
  · intro hm
    exact absurd F.ns.lt ((List.mem_singleton.mp hm) ▸ Nat.lt_irrefl _)
  · intro b hb
    rw [List.mem_singleton.mp hb]
    exact hI0
  · intro p hp hI
    exact absurd (Heap.lt_size (N p hp).1) ((List.mem_singleton.mp hI) ▸ Nat.lt_irrefl _)
  · show IsRangeIter _ _ _ _ _
    rw [hn]
    simpa using Heap.get?_push_size _ rfl
  · rintro i v m₁ nx s₁ own ⟨hh', tk', rfl⟩ hin ⟨_, t, ev⟩ hJ hoff hown _ hfp hst F₁ N₁
    have ev' : v = .int (a₀ + (i : Nat)) t := by rw [ev]; congr 1; omega
    subst ev'
    obtain ⟨oI, hoI⟩ : ∃ oI, (s.heap.objs.size, oI) ∈ own := ⟨_, hfp _ (List.mem_singleton.mpr rfl) hI0 _ hst⟩
    have hne : ∀ p ∈ nx, p.1 ≠ s.heap.objs.size := fun p hp e => hoff p hp (List.mem_singleton.mpr e)
    have hall : ∀ p ∈ own, p = (s.heap.objs.size, oI) := fun p hp => by
      have e1 := List.mem_singleton.mp (hown p hp)
      have e2 := (N₁ p (List.mem_append_left _ hp)).1
      have e3 := (N₁ _ (List.mem_append_left _ hoI)).1
      rw [e1] at e2
      have e4 := e2.symm.trans e3
      exact Prod.ext e1 (Option.some.inj e4)
    have N₂ : News h₀ env.locals hh' ((s.heap.objs.size, oI) :: nx) := fun p hp => N₁ p (by
      rcases List.mem_cons.mp hp with rfl | hp
      · exact List.mem_append_left _ hoI
      · exact List.mem_append_right _ hp)
    refine wpAny_mono (turn i t m₁ nx hh' tk' _ oI hin hJ hne F₁ N₂) (fun f s₂ p => ?_) fun _ _ e => e
    have fin : (∃ h' tk m' nx', s₂ = { s with heap := h', toks := tk } ∧ Fr h₀ env.locals h' m' ∧ News h₀ env.locals h' ((s.heap.objs.size, oI) :: nx') ∧ (∀ p ∈ nx', p.1 ≠ s.heap.objs.size) ∧ J (i + 1) m' nx') →
        LoopStepU h₀ env.locals [s.heap.objs.size] own (J (i + 1)) { s with heap := hh', toks := tk' } .next s₂ := by
      rintro ⟨h', tk, m', nx', e, F', N', hn', hm⟩
      refine ⟨rfl, h', tk, m', nx', e, F', fun p hp => N' p ?_, fun p hp hq => hn' p hp (List.mem_singleton.mp hq), hm⟩
      rcases List.mem_append.mp hp with hp | hp
      · rw [hall p hp]; exact List.mem_cons_self
      · exact List.mem_cons_of_mem _ hp
    cases f with
    | ret v => exact .ret p
    | brk => exact .brk p
    | next => exact .next (fin p)
    | cont => exact .cont (fin p)
  · rintro h' tk m' nx' F' N' _ hJ
    exact done m' nx' h' tk hJ F' N'
end
theorem rangeSize_up {a b : Int} {n : Nat} (h : b - a = (n : Int)) : Builtin.Range.rangeSize a b 1 = (n : Int) := by
  unfold Builtin.Range.rangeSize
  by_cases hab : a < b <;> simp [hab] <;> omega
theorem range_small {a b : Int} (h1 : -(2 ^ 40) < a) (h2 : a < 2 ^ 40) (h3 : -(2 ^ 40) < b) (h4 : b < 2 ^ 40) (h5 : a ≤ b) : Builtin.Range.small a b 1 = true := by
  have e : Builtin.Range.rangeSize a b 1 = ((b - a).toNat : Int) := rangeSize_up (by omega)
  unfold Builtin.Range.small
  rw [e]
  simp [Builtin.Range.rangeFitsLong]
  omega

end
section

local macro_rules | `(tactic| k_all) => `(tactic| first | assumption | exact fun p hp => Nat.ne_of_lt ((by assumption : ∀ p ∈ _, p.1 < _) p hp))
local macro_rules | `(tactic| k_ne) => `(tactic| first | assumption | exact Ne.symm (by assumption))

def ResB (r : Value) (nw : Led) : Prop := ∃ arr t, r = .bytes arr t ∧ nw = [] ∧ arr.size ≤ 64
theorem map2 {m : Str → Option Value} {a b : Str} {va vb : Value} (ha : m a = some va) (hb : m b = some vb) :
    m = fun x => if x = a then some va else if x = b then some vb else m x := by
  funext x
  by_cases h1 : x = a
  · subst h1; simp [ha]
  · by_cases h2 : x = b
    · subst h2; simp [h1, hb]
    · simp [h1, h2]
/-- what holds between the turns of _law_octets -/
def OJ (l : Addr) (news : Led) (i : Nat) (m : Str → Option Value) (nx : Led) : Prop :=
  ∃ its c num tn ns, nx = (l, listOf its c) :: news ∧ its.size = i ∧ IntsAre its.toList ns ∧ KBa.In ns ∧ m (Str.ofString "number") = some (.int num tn) ∧ m (Str.ofString "told") = some (.ref l)
theorem in_push {ns : List Int} {n : Int} (h : KBa.In ns) (h0 : 0 ≤ n) (h1 : n < 256) : KBa.In (ns ++ [n]) := by
  intro q hq
  rcases List.mem_append.mp hq with hq | hq
  · exact h q hq
  · rw [List.mem_singleton.mp hq]; exact ⟨h0, h1⟩
theorem oct_ok {w mean mg mb} {n : Int} {t : Tok} {news : Led} : CallOk w mean mg mb 140 2 [.int n t] news ResB := by
  k_with_none
  k_with "binaryOp Mod int int" => (k_here; refine' modN (by first | decide | assumption | omega) ?_; k_whole; intro wmr wmt9 wmk9 wme wml wmu)
  k_with "binaryOp FloorDiv int int" => (k_here; refine' divN (by first | decide | assumption | omega) (by first | decide | omega) ?_; k_whole; intro wmr wmt9 wmk9 wme)
  k_with "binaryOp Mult int int" => (k_here; refine' mulT (by first | exact okL (by decide) (by decide) | exact okR (by decide) (by decide) | exact okLs (by assumption) (by assumption) | exact okRs (by assumption) (by assumption) | exact okLP (by assumption) (by assumption) (by assumption) | exact okRP (by assumption) (by assumption) (by assumption) | exact okL (by omega) (by omega) | exact okR (by omega) (by omega)) ?_; k_whole; intro wmt9 wmk9)
  k_with "binaryOp Pow int int" => (k_here; (first | refine' pow2 (by omega) (by omega) ?_ | refine' pow3 (by omega) (by omega) ?_ | refine' pow4 (by omega) (by omega) ?_); k_whole; intro wmt9 wmk9)
  k_with "binaryOp Add int int" => (k_here; refine' addT ?_; k_whole; intro wmt9 wmk9)
  k_with "binaryOp Sub int int" => (k_here; refine' subT ?_; k_whole; intro wmt9 wmk9)
  k_with "pyIter ref" => (k_here; (fail_if_success (have pass9 : Pass := by assumption)); refine Hold.of ?_)
  k_with "call builtin:list.append" => (k_here; k_dflt (refine' append_K (by k_asm) (by k_asm) (by k_upd) ?_ (by (rw [sizeLine_eq]; omega)); k_whole); intro h' F' N')
  unfold CallOk
  k_fill
  intro dp un gd cn cs a ccd cl outer A₀ base h₀ L m s Q E B F X NN T hk hd hu hret
  refine wpAny_call ?_
  k_dflt cell_enter
  k_steps
  unfold Hold
  rename ∀ p ∈ news, p.1 < _ => l1
  refine named_lt l1 ?_
  intro l9 el9
  subst el9
  rename n % 40 = _ => e9
  rename IsRange _ _ _ _ _ _ _ _ => hr
  rename Fr _ _ _ _ => lF
  rename News _ _ _ ((_, W.listOf _ _) :: _) => lN
  with_unfolding_all refine' range_own (n := (1 + n % 40).toNat) (OJ l9 news) (by rfl) hr ?sm ?sz lF lN ?st ?turn ?done
  case sm => exact range_small (by omega) (by omega) (by omega) (by omega) (by omega)
  case sz => exact rangeSize_up (by omega)
  case st => exact ⟨#[], 0, n, _, [], rfl, rfl, .nil, (fun _ h => nomatch h), rfl, rfl⟩
  case turn =>
    rintro i ti m1 nx h tk I oI hi ⟨its, c, num, tn, ns, enx, hsz, hI, hin, e1, e2⟩ hne F1 N1
    subst enx
    have hne1 : l9 ≠ I := (List.forall_mem_cons.mp hne).1
    have hne2 := (List.forall_mem_cons.mp hne).2
    rw [map2 e1 e2] at F1
    clear e1 e2 lF lN hr
    k_steps
    rename News _ _ _ _ => N9
    refine' ForEnd.intro (by assumption) N9 ?mi (fun p hp => List.Mem.tail _ hp) ?ne ⟨_, _, _, _, _, rfl, ?sz2, ?ia, ?in2, rfl, rfl⟩
    case mi => k_mem
    case ne => exact List.forall_mem_cons.mpr ⟨hne1, hne2⟩
    case sz2 => simp [hsz]
    case ia => exact intsAre_push hI
    case in2 => exact in_push hin (by assumption) (by assumption)
  case done =>
    rintro m1 nx h tk ⟨its, c, num, tn, ns, enx, hsz, hI, hin, e1, e2⟩ F1 N1
    subst enx
    rw [map2 e1 e2] at F1
    clear e1 e2 lF lN hr
    have hlen : ns.length ≤ 64 := by rw [← hI.length, Array.length_toList]; omega
    k_steps
    exact hret _ [] _ _ (by assumption) (news_sub (by assumption) (fun p hp => .tail _ hp)) ⟨_, _, rfl, rfl, by rw [byteArr_size]; exact hlen⟩

end
section




theorem ls_a {x1 x2 y P e : Int} (hx : x1 = x2) (he : y % P = e) (h0 : e = 0) : (true = true) ↔ (x1 = x2 ∧ y % P = 0) := ⟨fun _ => ⟨hx, he.trans h0⟩, fun _ => rfl⟩
theorem ls_b {x1 x2 y P e : Int} (he : y % P = e) (h0 : e ≠ 0) : (false = true) ↔ (x1 = x2 ∧ y % P = 0) := ⟨(fun q => nomatch q), fun q => absurd (he.symm.trans q.2) h0⟩
theorem ls_c {x1 x2 : Int} {C : Prop} (h : x1 ≠ x2) : (false = true) ↔ (x1 = x2 ∧ C) := ⟨(fun q => nomatch q), fun q => absurd q.1 h⟩
theorem ls_nb {b : Bool} (h : b = true) (h2 : b = false) : False := by rw [h] at h2; cases h2
theorem lsum_ok {w mean mg mb} {cv d1 d2 : Addr} {x1 y1 x2 y2 P N A B Gx Gy : Int} {t1 t2 t3 t4 u1 u2 u3 u4 u5 u6 : Tok} {c c2 c' : Nat} {news : Led}
   (hp : (d1, tup2 x1 y1 t1 t2 c) ∈ news) (hq : (d2, tup2 x2 y2 t3 t4 c2) ∈ news) (hc : (cv, tup6 P N A B Gx Gy u1 u2 u3 u4 u5 u6 c') ∈ news) (hs : (2 < P ∧ Sm P ∧ Sm A) ∧ (Sm x1 ∧ Sm y1) ∧ Sm x2 ∧ Sm y2) :
   CallOk w mean mg mb 119 2 [.ref cv, .ref d1, .ref d2] news (ResV (lsumI P A (some (x1, y1)) (some (x2, y2)))) := by
  k_with_none
  k_with "binaryOp Mod int int" => (k_here; refine' modN (by first | decide | assumption | omega) ?_; k_whole; intro wmr wmt9 wmk9 wme wml wmu)
  k_with "binaryOp FloorDiv int int" => (k_here; refine' divN (by first | decide | assumption | omega) (by first | decide | omega) ?_; k_whole; intro wmr wmt9 wmk9 wme)
  k_with "binaryOp Mult int int" => (k_here; refine' mulT (by first | exact okL (by decide) (by decide) | exact okR (by decide) (by decide) | exact okLs (by assumption) (by assumption) | exact okRs (by assumption) (by assumption) | exact okLP (by assumption) (by assumption) (by assumption) | exact okRP (by assumption) (by assumption) (by assumption) | exact okL (by omega) (by omega) | exact okR (by omega) (by omega)) ?_; k_whole; intro wmt9 wmk9)
  k_with "binaryOp Pow int int" => (k_here; (first | refine' pow2 (by omega) (by omega) ?_ | refine' pow3 (by omega) (by omega) ?_ | refine' pow4 (by omega) (by omega) ?_); k_whole; intro wmt9 wmk9)
  k_with "binaryOp Add int int" => (k_here; refine' addT ?_; k_whole; intro wmt9 wmk9)
  k_with "binaryOp Sub int int" => (k_here; refine' subT ?_; k_whole; intro wmt9 wmk9)
  k_with "call builtin:pow" => (k_here; refine' powN3 (by omega) (by omega) ?_; k_whole; intro wpr wpt9 wpk9 wpe wpl wpu)
  k_with "compareOp Eq ref ref" => (k_here; k_dflt (refine' eq_tup2 (by assumption) (by k_mem) (by k_mem) (by ktr_units) ?_; k_whole))
  k_with "isTrue BoolOp" => (k_here; (with_reducible show wpAny _ _ (isTrue (Expr.BoolOp BoolOp.And _ _) _ _) _ _ _); (fail_if_success (have pass9 : Pass := by assumption)); refine Hold.of ?_)
  unfold CallOk
  k_fill
  intro dp un gd cn cs a ccd cl outer A₀ base h₀ L m s Q E BB F X NN T hk hd hu hret
  obtain ⟨⟨hP0, ⟨hP1, hP2⟩, hA1, hA2⟩, ⟨⟨hx1, hx2⟩, hy1, hy2⟩, ⟨hx3, hx4⟩, hy3, hy4⟩ := hs
  refine wpAny_call ?_
  k_dflt cell_enter
  k_steps
  unfold Hold
  rename Fr _ _ _ _ => lF
  rename News _ _ _ _ => lN
  refine' cutB lF lN (x1 = x2 ∧ (y1 + y2) % P = 0) ?H1 ?K1
  case H1 =>
    intro Q9 pass hq9
    k_steps
    · exact hq9 _ _ _ (by assumption) (by assumption) (ls_a (by assumption) (by assumption) (by assumption))
    · exact hq9 _ _ _ (by assumption) (by assumption) (ls_b (by assumption) (by assumption))
    · exact hq9 _ _ _ (by assumption) (by assumption) (ls_c (by assumption))
  case K1 =>
    intro b9 h9 tk9 F9 N9 hb9
    clear lF lN
    (try k_sweep)
    (try dsimp only)
    (try k_fold)
    k_steps
    · have hb8 := hb9.mp (by assumption)
      exact endV_none (Q := Q) (s := s) hret (by assumption) (by assumption) (by kcj_all) (lsI_none hb8.1 rfl hb8.2)
    all_goals
      have hb8 : ¬ (x1 = x2 ∧ (y1 + y2) % P = 0) := fun q => ls_nb (hb9.mpr q) (by assumption)
      (refine endV_some (Q := Q) (s := s) hret (by assumption) (by assumption) (by k_mem) (by kcj_all) ?_ rfl (sm_of (by assumption) (by assumption) hP2) (sm_of (by assumption) (by assumption) hP2); first
      | exact lsI_dbl hb8 (by assumption) (by assumption) (by assumption) (by assumption) (by assumption)
      | exact lsI_add hb8 (by assumption) (by assumption) (by assumption) (by assumption) (by assumption))

/-- v is None, or a tuple of two small ints on the ledger -/
def PtIs (news : Led) (v : Value) : Option (Int × Int) → Prop
  | none => v = .none
  | some T => ∃ d t1 t2 c, v = .ref d ∧ (d, tup2 T.1 T.2 t1 t2 c) ∈ news ∧ Sm T.1 ∧ Sm T.2
theorem PtIs.up {news news' : Led} {v : Value} {S : Option (Int × Int)} (h : PtIs news v S) (hs : ∀ p ∈ news, p ∈ news') : PtIs news' v S := by
  match S, h with
  | none, h => exact h
  | some T, ⟨d, t1, t2, c, e, hm, h1⟩ => exact ⟨d, t1, t2, c, e, hs _ hm, h1⟩
theorem ptIs_of_res {news : Led} {v : Value} {S : Option (Int × Int)} {nw : Led} (h : ResV S v nw) : PtIs (nw ++ news) v S := by
  match S, h with
  | none, h => exact h.1
  | some T, ⟨D, X, Y, s1, s2, d, e, hX, hY, hr, hn⟩ =>
    subst e hr hn
    exact ⟨D, s1, s2, d, rfl, List.mem_append_left _ (List.Mem.head _), hX, hY⟩
theorem lsumV_nn {w mean mg mb} {cv : Addr} {P N A B Gx Gy : Int} {u1 u2 u3 u4 u5 u6 : Tok} {c' : Nat} {news : Led}
   (hc : (cv, tup6 P N A B Gx Gy u1 u2 u3 u4 u5 u6 c') ∈ news) :
   CallOk w mean mg mb 119 2 [.ref cv, .none, .none] news (ResV none) := by
  k_with_none
  k_with "binaryOp Mod int int" => (k_here; refine' modN (by first | decide | assumption | omega) ?_; k_whole; intro wmr wmt9 wmk9 wme wml wmu)
  k_with "binaryOp FloorDiv int int" => (k_here; refine' divN (by first | decide | assumption | omega) (by first | decide | omega) ?_; k_whole; intro wmr wmt9 wmk9 wme)
  k_with "binaryOp Mult int int" => (k_here; refine' mulT (by first | exact okL (by decide) (by decide) | exact okR (by decide) (by decide) | exact okLs (by assumption) (by assumption) | exact okRs (by assumption) (by assumption) | exact okLP (by assumption) (by assumption) (by assumption) | exact okRP (by assumption) (by assumption) (by assumption) | exact okL (by omega) (by omega) | exact okR (by omega) (by omega)) ?_; k_whole; intro wmt9 wmk9)
  k_with "binaryOp Pow int int" => (k_here; (first | refine' pow2 (by omega) (by omega) ?_ | refine' pow3 (by omega) (by omega) ?_ | refine' pow4 (by omega) (by omega) ?_); k_whole; intro wmt9 wmk9)
  k_with "binaryOp Add int int" => (k_here; refine' addT ?_; k_whole; intro wmt9 wmk9)
  k_with "binaryOp Sub int int" => (k_here; refine' subT ?_; k_whole; intro wmt9 wmk9)
  k_with "call builtin:pow" => (k_here; refine' powN3 (by omega) (by omega) ?_; k_whole; intro wpr wpt9 wpk9 wpe wpl wpu)
  k_with "compareOp Eq ref ref" => (k_here; k_dflt (refine' eq_tup2 (by assumption) (by k_mem) (by k_mem) (by ktr_units) ?_; k_whole))
  k_with "isTrue BoolOp" => (k_here; (with_reducible show wpAny _ _ (isTrue (Expr.BoolOp BoolOp.And _ _) _ _) _ _ _); (fail_if_success (have pass9 : Pass := by assumption)); refine Hold.of ?_)
  unfold CallOk
  k_fill
  intro dp un gd cn cs a ccd cl outer A₀ base h₀ L m s Q E BB F X NN T hk hd hu hret
  refine wpAny_call ?_
  k_dflt cell_enter
  k_steps
  all_goals exact endV_none (Q := Q) (s := s) hret (by assumption) (by assumption) (by kcj_all) rfl
theorem lsumV_ns {w mean mg mb} {cv d2 : Addr} {x2 y2 P N A B Gx Gy : Int} {t3 t4 u1 u2 u3 u4 u5 u6 : Tok} {c2 c' : Nat} {news : Led}
   (hq : (d2, tup2 x2 y2 t3 t4 c2) ∈ news) (hc : (cv, tup6 P N A B Gx Gy u1 u2 u3 u4 u5 u6 c') ∈ news) (hs : Sm x2 ∧ Sm y2) :
   CallOk w mean mg mb 119 2 [.ref cv, .none, .ref d2] news (ResV (some (x2, y2))) := by
  k_with_none
  k_with "binaryOp Mod int int" => (k_here; refine' modN (by first | decide | assumption | omega) ?_; k_whole; intro wmr wmt9 wmk9 wme wml wmu)
  k_with "binaryOp FloorDiv int int" => (k_here; refine' divN (by first | decide | assumption | omega) (by first | decide | omega) ?_; k_whole; intro wmr wmt9 wmk9 wme)
  k_with "binaryOp Mult int int" => (k_here; refine' mulT (by first | exact okL (by decide) (by decide) | exact okR (by decide) (by decide) | exact okLs (by assumption) (by assumption) | exact okRs (by assumption) (by assumption) | exact okLP (by assumption) (by assumption) (by assumption) | exact okRP (by assumption) (by assumption) (by assumption) | exact okL (by omega) (by omega) | exact okR (by omega) (by omega)) ?_; k_whole; intro wmt9 wmk9)
  k_with "binaryOp Pow int int" => (k_here; (first | refine' pow2 (by omega) (by omega) ?_ | refine' pow3 (by omega) (by omega) ?_ | refine' pow4 (by omega) (by omega) ?_); k_whole; intro wmt9 wmk9)
  k_with "binaryOp Add int int" => (k_here; refine' addT ?_; k_whole; intro wmt9 wmk9)
  k_with "binaryOp Sub int int" => (k_here; refine' subT ?_; k_whole; intro wmt9 wmk9)
  k_with "call builtin:pow" => (k_here; refine' powN3 (by omega) (by omega) ?_; k_whole; intro wpr wpt9 wpk9 wpe wpl wpu)
  k_with "compareOp Eq ref ref" => (k_here; k_dflt (refine' eq_tup2 (by assumption) (by k_mem) (by k_mem) (by ktr_units) ?_; k_whole))
  k_with "isTrue BoolOp" => (k_here; (with_reducible show wpAny _ _ (isTrue (Expr.BoolOp BoolOp.And _ _) _ _) _ _ _); (fail_if_success (have pass9 : Pass := by assumption)); refine Hold.of ?_)
  unfold CallOk
  k_fill
  intro dp un gd cn cs a ccd cl outer A₀ base h₀ L m s Q E BB F X NN T hk hd hu hret
  refine wpAny_call ?_
  k_dflt cell_enter
  k_steps
  all_goals exact endV_some (Q := Q) (s := s) hret (by assumption) (by assumption) (by k_mem) (by kcj_all) rfl rfl hs.1 hs.2
theorem lsumV_sn {w mean mg mb} {cv d2 : Addr} {x2 y2 P N A B Gx Gy : Int} {t3 t4 u1 u2 u3 u4 u5 u6 : Tok} {c2 c' : Nat} {news : Led}
   (hq : (d2, tup2 x2 y2 t3 t4 c2) ∈ news) (hc : (cv, tup6 P N A B Gx Gy u1 u2 u3 u4 u5 u6 c') ∈ news) (hs : Sm x2 ∧ Sm y2) :
   CallOk w mean mg mb 119 2 [.ref cv, .ref d2, .none] news (ResV (some (x2, y2))) := by
  k_with_none
  k_with "binaryOp Mod int int" => (k_here; refine' modN (by first | decide | assumption | omega) ?_; k_whole; intro wmr wmt9 wmk9 wme wml wmu)
  k_with "binaryOp FloorDiv int int" => (k_here; refine' divN (by first | decide | assumption | omega) (by first | decide | omega) ?_; k_whole; intro wmr wmt9 wmk9 wme)
  k_with "binaryOp Mult int int" => (k_here; refine' mulT (by first | exact okL (by decide) (by decide) | exact okR (by decide) (by decide) | exact okLs (by assumption) (by assumption) | exact okRs (by assumption) (by assumption) | exact okLP (by assumption) (by assumption) (by assumption) | exact okRP (by assumption) (by assumption) (by assumption) | exact okL (by omega) (by omega) | exact okR (by omega) (by omega)) ?_; k_whole; intro wmt9 wmk9)
  k_with "binaryOp Pow int int" => (k_here; (first | refine' pow2 (by omega) (by omega) ?_ | refine' pow3 (by omega) (by omega) ?_ | refine' pow4 (by omega) (by omega) ?_); k_whole; intro wmt9 wmk9)
  k_with "binaryOp Add int int" => (k_here; refine' addT ?_; k_whole; intro wmt9 wmk9)
  k_with "binaryOp Sub int int" => (k_here; refine' subT ?_; k_whole; intro wmt9 wmk9)
  k_with "call builtin:pow" => (k_here; refine' powN3 (by omega) (by omega) ?_; k_whole; intro wpr wpt9 wpk9 wpe wpl wpu)
  k_with "compareOp Eq ref ref" => (k_here; k_dflt (refine' eq_tup2 (by assumption) (by k_mem) (by k_mem) (by ktr_units) ?_; k_whole))
  k_with "isTrue BoolOp" => (k_here; (with_reducible show wpAny _ _ (isTrue (Expr.BoolOp BoolOp.And _ _) _ _) _ _ _); (fail_if_success (have pass9 : Pass := by assumption)); refine Hold.of ?_)
  unfold CallOk
  k_fill
  intro dp un gd cn cs a ccd cl outer A₀ base h₀ L m s Q E BB F X NN T hk hd hu hret
  refine wpAny_call ?_
  k_dflt cell_enter
  k_steps
  all_goals exact endV_some (Q := Q) (s := s) hret (by assumption) (by assumption) (by k_mem) (by kcj_all) rfl rfl hs.1 hs.2
theorem lsumV_ok {w mean mg mb} {cv : Addr} {v1 v2 : Value} {S T : Option (Int × Int)} {P N A B Gx Gy : Int} {u1 u2 u3 u4 u5 u6 : Tok} {c' : Nat} {news : Led}
   (hp : PtIs news v1 S) (hq : PtIs news v2 T) (hc : (cv, tup6 P N A B Gx Gy u1 u2 u3 u4 u5 u6 c') ∈ news) (hs : 2 < P ∧ Sm P ∧ Sm A) :
   CallOk w mean mg mb 119 2 [.ref cv, v1, v2] news (ResV (lsumI P A S T)) := by
  match S, T, hp, hq with
  | none, none, e1, e2 => subst e1 e2; exact lsumV_nn hc
  | none, some T, e1, ⟨d, t1, t2, c, e, hm, h1, h2⟩ => subst e1 e; exact lsumV_ns hm hc ⟨h1, h2⟩
  | some S, none, ⟨d, t1, t2, c, e, hm, h1, h2⟩, e2 => subst e2 e; exact lsumV_sn hm hc ⟨h1, h2⟩
  | some S, some T, ⟨d, t1, t2, c, e, hm, h1, h2⟩, ⟨d', t1', t2', c', e', hm', h1', h2'⟩ => subst e e'; exact lsum_ok hm hm' hc ⟨hs, ⟨h1, h2⟩, h1', h2'⟩

end
section



def bm (u : Str → Option Value) : List (Str × Value) → Str → Option Value
  | [] => u
  | q :: r => fun x => if x = q.1 then some q.2 else bm u r x
theorem map_bm {m : Str → Option Value} : ∀ {ps : List (Str × Value)}, (∀ q ∈ ps, m q.1 = some q.2) → m = bm m ps
  | [], _ => rfl
  | q :: r, h => by
    funext x
    show m x = if x = q.1 then some q.2 else bm m r x
    by_cases hx : x = q.1
    · rw [if_pos hx, hx]; exact h q (.head _)
    · rw [if_neg hx]; exact congrFun (map_bm fun q hq => h q (.tail _ hq)) x
/-- how a turn of a while ends -/
def TurnEnd (h₀ : Heap) (L : Addr) (s : Shared) (J : Nat → (Str → Option Value) → Led → Prop) (Q : Flow → Shared → Prop) (n : Nat) (f : Flow) (s₃ : Shared) : Prop := WhileStep2 h₀ L s J Q n f s₃
theorem TurnEnd.intro {h₀ h' : Heap} {L : Addr} {s : Shared} {J : Nat → (Str → Option Value) → Led → Prop} {Q : Flow → Shared → Prop} {n n' tk : Nat} {m₂ : Str → Option Value} {news₂ : Led}
    (F : Fr h₀ L h' m₂) (N : News h₀ L h' news₂) (hn : n' < n) (hJ : J n' m₂ news₂) : TurnEnd h₀ L s J Q n .next { s with heap := h', toks := tk } := ⟨h', tk, m₂, news₂, n', rfl, F, N, hn, hJ⟩
section
variable {prog : Program} {w : World} {A : Around} {E : Value → Shared → Prop} {Q : Flow → Shared → Prop} {s : Shared} {env : Env} {h₀ : Heap} {L : Addr}
theorem wh_own {test : Expr} {body : List Stmt} {pos : Pos} {m : Str → Option Value} {news : Led} (J : Nat → (Str → Option Value) → Led → Prop) {n₀ : Nat}
    (F : Fr h₀ L s.heap m) (N : News h₀ L s.heap news) (hJ : J n₀ m news)
    (turn : ∀ n m₁ news₁ h₁ tk₁, Fr h₀ L h₁ m₁ → News h₀ L h₁ news₁ → J n m₁ news₁ →
      wpAny (model prog w) A (isTrue test env (eval test env)) (fun b s₂ =>
        if b = true then wpAny (model prog w) A (execs body env) (TurnEnd h₀ L s J Q n) E s₂ else Q .next s₂) E { s with heap := h₁, toks := tk₁ })
    (hE : PassesOwn (model prog w) A env E := by passes_own) :
    wpAny (model prog w) A (exec (.While test body [] pos) env) Q E s := While_inv2 J F N hJ turn hE
end

theorem map4 {m : Str → Option Value} {a b c d : Str} {va vb vc vd : Value} (ha : m a = some va) (hb : m b = some vb) (hc : m c = some vc) (hd : m d = some vd) :
    m = fun x => if x = a then some va else if x = b then some vb else if x = c then some vc else if x = d then some vd else m x := by
  funext x
  by_cases h1 : x = a
  · subst h1; simp [ha]
  · by_cases h2 : x = b
    · subst h2; simp [h1, hb]
    · by_cases h3 : x = c
      · subst h3; simp [h1, h2, hc]
      · by_cases h4 : x = d
        · subst h4; simp [h1, h2, h3, hd]
        · simp [h1, h2, h3, h4]
def TJ (P A : Int) (cv : Addr) (news : Led) (goal : Option (Int × Int)) (k : Nat) (m : Str → Option Value) (nx : Led) : Prop :=
  ∃ v1 v2 n tn S T, m (Str.ofString "n") = some (.int n tn) ∧ m (Str.ofString "point") = some v2 ∧ m (Str.ofString "told") = some v1 ∧ m (Str.ofString "curve") = some (.ref cv) ∧
    (∀ p ∈ news, p ∈ nx) ∧ 0 ≤ n ∧ n.toNat = k ∧ PtIs nx v1 S ∧ PtIs nx v2 T ∧ ltI P A n.toNat S T = goal
theorem ltI_zero {P A : Int} {S T : Option (Int × Int)} : ltI P A 0 S T = S := by rw [ltI, if_pos rfl]
theorem ltI_odd {P A n q r : Int} {S T goal : Option (Int × Int)} (h : ltI P A n.toNat S T = goal) (h0 : 0 < n) (hq : n / 2 = q) (hr : n % 2 = r) (h1 : r = 1) : ltI P A q.toNat (lsumI P A S T) (lsumI P A T T) = goal := by
  rw [ltI, if_neg (by omega), if_pos (by omega)] at h
  rw [← h, ← hq, show (n / 2).toNat = n.toNat / 2 by omega]
theorem ltI_even {P A n q r : Int} {S T goal : Option (Int × Int)} (h : ltI P A n.toNat S T = goal) (h0 : 0 < n) (hq : n / 2 = q) (hr : n % 2 = r) (h1 : ¬ r = 1) : ltI P A q.toNat S (lsumI P A T T) = goal := by
  rw [ltI, if_neg (by omega), if_neg (by omega)] at h
  rw [← h, ← hq, show (n / 2).toNat = n.toNat / 2 by omega]
section
variable {h₀ h' : Heap} {L : Addr} {m : Str → Option Value} {news led : Led} {s : Shared} {Q : Value → Shared → Prop} {tk' : Nat} {S S' : Option (Int × Int)} {v : Value}
theorem endV_pt (hret : ∀ r nw h' tk', Fr h₀ L h' m → News h₀ L h' (nw ++ news) → ResV S r nw → Q r { s with heap := h', toks := tk' })
    (F : Fr h₀ L h' m) (N : News h₀ L h' led) (hs : ∀ p ∈ news, p ∈ led) (hv : PtIs led v S') (e : S' = S) : Q v { s with heap := h', toks := tk' } := by
  subst e
  match S', hv with
  | none, hv => subst hv; exact hret _ [] _ _ F (news_sub N hs) ⟨rfl, rfl⟩
  | some T, ⟨d, t1, t2, c, ev, hm, h1, h2⟩ => subst ev; exact hret _ [_] _ _ F (news_add N hs hm) ⟨_, _, _, _, _, _, rfl, h1, h2, rfl, rfl⟩
end
theorem ptIs_N {h₀ h' : Heap} {L : Addr} {news nw : Led} {v : Value} {S : Option (Int × Int)} (_N : News h₀ L h' (nw ++ news)) (h : ResV S v nw) : PtIs (nw ++ news) v S := ptIs_of_res h


theorem times_ok {w mean mg mb} {cv : Addr} {v2 : Value} {T : Option (Int × Int)} {P N A B Gx Gy n : Int} {tn u1 u2 u3 u4 u5 u6 : Tok} {c' : Nat} {news : Led}
   (hq : PtIs news v2 T) (hc : (cv, tup6 P N A B Gx Gy u1 u2 u3 u4 u5 u6 c') ∈ news) (hs : (2 < P ∧ Sm P ∧ Sm A) ∧ 1 < N ∧ N < 2 ^ 20) :
   CallOk w mean mg mb 126 4 [.ref cv, v2, .int n tn] news (ResV (ltI P A (n % N).toNat none T)) := by
  k_with_none
  k_with "binaryOp Mod int int" => (k_here; refine' modN (by first | decide | assumption | omega) ?_; k_whole; intro wmr wmt9 wmk9 wme wml wmu)
  k_with "binaryOp FloorDiv int int" => (k_here; refine' divN (by first | decide | assumption | omega) (by first | decide | omega) ?_; k_whole; intro wmr wmt9 wmk9 wme)
  k_with "binaryOp Mult int int" => (k_here; refine' mulT (by first | exact okL (by decide) (by decide) | exact okR (by decide) (by decide) | exact okLs (by assumption) (by assumption) | exact okRs (by assumption) (by assumption) | exact okLP (by assumption) (by assumption) (by assumption) | exact okRP (by assumption) (by assumption) (by assumption) | exact okL (by omega) (by omega) | exact okR (by omega) (by omega)) ?_; k_whole; intro wmt9 wmk9)
  k_with "binaryOp Pow int int" => (k_here; (first | refine' pow2 (by omega) (by omega) ?_ | refine' pow3 (by omega) (by omega) ?_ | refine' pow4 (by omega) (by omega) ?_); k_whole; intro wmt9 wmk9)
  k_with "binaryOp Add int int" => (k_here; refine' addT ?_; k_whole; intro wmt9 wmk9)
  k_with "binaryOp Sub int int" => (k_here; refine' subT ?_; k_whole; intro wmt9 wmk9)
  k_with "call builtin:pow" => (k_here; refine' powN3 (by omega) (by omega) ?_; k_whole; intro wpr wpt9 wpk9 wpe wpl wpu)
  k_with "exec While" => (k_here; (fail_if_success (have pass9 : Pass := by assumption)); refine Hold.of ?_)
  k_with "exec While Compare cons nil" => (k_here; (fail_if_success (have pass9 : Pass := by assumption)); refine Hold.of ?_)
  k_with "exec While Compare" => (k_here; (fail_if_success (have pass9 : Pass := by assumption)); refine Hold.of ?_)
  k_with "call ref" => (k_here; (with_reducible show wpAny _ _ (call (Value.ref 119) _) _ _ _); k_dflt (refine' callOk_use (by k_asm) (by k_asm) (by k_asm) (by k_asm) (by k_asm) (by first | exact rfl | assumption) (lsumV_ok (by first | assumption | exact PtIs.up (by assumption) (by kcj_all)) (by first | assumption | exact PtIs.up (by assumption) (by kcj_all)) (by k_mem) (by ((repeat' (first | assumption | with_reducible apply And.intro)); all_goals omega))) (by ktr_room) (by ktr_units) ?_; intro wr9 wnw9 wh9 wtk9 wF9 wN9 wo9; (have pt9 := ptIs_N wN9 wo9); (try k_sweep); (try dsimp only); (try k_fold)))
  unfold CallOk
  k_fill
  intro dp un gd cn cs a ccd cl outer A₀ base h₀ L m s Q E BB F X NN TT hk hd hu hret
  obtain ⟨⟨hP0, ⟨hP1, hP2⟩, hA1, hA2⟩, hN1, hN2⟩ := hs
  refine wpAny_call ?_
  k_dflt cell_enter
  k_steps
  unfold Hold
  rename Fr _ _ _ _ => lF
  rename News _ _ _ _ => lN
  with_unfolding_all refine' wh_own (TJ P A cv news (ltI P A (n % N).toNat none T)) lF lN ?st ?turn
  case st =>
    refine ⟨.none, v2, _, _, none, T, rfl, rfl, rfl, rfl, fun p h => h, by assumption, rfl, rfl, hq, ?_⟩
    rename n % N = _ => e9
    rw [e9]
  case turn =>
    rintro k m1 nx h tk F1 N1 ⟨v1, v2', n1, tn1, S1, T1, e1, e2, e3, e4, hsub, hn0, hk1, p1, p2, hg⟩
    rw [map4 e1 e2 e3 e4] at F1
    have hc1 := hsub _ hc
    clear e1 e2 e3 e4 lF lN hq
    k_steps
    · refine' TurnEnd.intro (by assumption) (by assumption) ?lt ⟨_, _, _, _, _, _, rfl, rfl, rfl, rfl, ?sb, ?nn, rfl, ?q1, ?q2, ?gg⟩
      case lt => omega
      case sb => intro p hp; have hp1 := hsub p hp; k_mem
      case nn => omega
      case q2 => assumption
      case gg => exact ltI_odd (by assumption) (by assumption) (by assumption) (by assumption) (by assumption)
      case q1 => exact PtIs.up (by assumption) (by kcj_all)
    · refine' TurnEnd.intro (by assumption) (by assumption) ?lt2 ⟨_, _, _, _, _, _, rfl, rfl, rfl, rfl, ?sb2, ?nn2, rfl, ?q12, ?q22, ?gg2⟩
      case lt2 => omega
      case sb2 => intro p hp; have hp1 := hsub p hp; k_mem
      case nn2 => omega
      case q22 => assumption
      case gg2 => exact ltI_even (by assumption) (by assumption) (by assumption) (by assumption) (by assumption)
      case q12 => exact PtIs.up (by assumption) (by kcj_all)
    · refine endV_pt (Q := Q) (s := s) hret (by assumption) (by assumption) (by assumption) (by assumption) ?_
      rw [← hg, show n1.toNat = 0 by omega, ltI_zero]

end
section

theorem flat_ok {w mean mg mb} {v : Value} {S : Option (Int × Int)} {news : Led} (hp : PtIs news v S) :
   CallOk w mean mg mb 133 1 [v] news (Res2 (flatI S)) := by
  k_with_none
  k_with "binaryOp Mod int int" => (k_here; refine' modN (by first | decide | assumption | omega) ?_; k_whole; intro wmr wmt9 wmk9 wme wml wmu)
  k_with "binaryOp FloorDiv int int" => (k_here; refine' divN (by first | decide | assumption | omega) (by first | decide | omega) ?_; k_whole; intro wmr wmt9 wmk9 wme)
  k_with "binaryOp Mult int int" => (k_here; refine' mulT (by first | exact okL (by decide) (by decide) | exact okR (by decide) (by decide) | exact okLs (by assumption) (by assumption) | exact okRs (by assumption) (by assumption) | exact okLP (by assumption) (by assumption) (by assumption) | exact okRP (by assumption) (by assumption) (by assumption) | exact okL (by omega) (by omega) | exact okR (by omega) (by omega)) ?_; k_whole; intro wmt9 wmk9)
  k_with "binaryOp Pow int int" => (k_here; (first | refine' pow2 (by omega) (by omega) ?_ | refine' pow3 (by omega) (by omega) ?_ | refine' pow4 (by omega) (by omega) ?_); k_whole; intro wmt9 wmk9)
  k_with "binaryOp Add int int" => (k_here; refine' addT ?_; k_whole; intro wmt9 wmk9)
  k_with "binaryOp Sub int int" => (k_here; refine' subT ?_; k_whole; intro wmt9 wmk9)
  match S, hp with
  | none, hp =>
    subst hp
    unfold CallOk
    k_fill
    intro dp un gd cn cs a ccd cl outer A₀ base h₀ L m s Q E BB F X NN TT hk hd hu hret
    refine wpAny_call ?_
    k_dflt cell_enter
    k_steps
    all_goals exact end2 (Q := Q) (s := s) hret (by assumption) (by assumption) (by k_mem) (by kcj_all) rfl (by decide) (by decide)
  | some T, ⟨d, t1, t2, c, e, hm, h1, h2⟩ =>
    subst e
    unfold CallOk
    k_fill
    intro dp un gd cn cs a ccd cl outer A₀ base h₀ L m s Q E BB F X NN TT hk hd hu hret
    refine wpAny_call ?_
    k_dflt cell_enter
    k_steps
    all_goals exact end2 (Q := Q) (s := s) hret (by assumption) (by assumption) (by k_mem) (by kcj_all) rfl h1 h2
theorem value_ok {w mean mg mb} {arr : Array UInt8} {t : Tok} {news : Led} (hs : arr.size ≤ 64) :
   CallOk w mean mg mb 147 2 [.bytes arr t] news (ResI (bval (KBw.bInts arr))) := by
  k_with_none
  k_with "binaryOp Mod int int" => (k_here; refine' modN (by first | decide | assumption | omega) ?_; k_whole; intro wmr wmt9 wmk9 wme wml wmu)
  k_with "binaryOp FloorDiv int int" => (k_here; refine' divN (by first | decide | assumption | omega) (by first | decide | omega) ?_; k_whole; intro wmr wmt9 wmk9 wme)
  k_with "binaryOp Mult int int" => (k_here; refine' mulT (by first | exact okL (by decide) (by decide) | exact okR (by decide) (by decide) | exact okLs (by assumption) (by assumption) | exact okRs (by assumption) (by assumption) | exact okLP (by assumption) (by assumption) (by assumption) | exact okRP (by assumption) (by assumption) (by assumption) | exact okL (by omega) (by omega) | exact okR (by omega) (by omega)) ?_; k_whole; intro wmt9 wmk9)
  k_with "binaryOp Pow int int" => (k_here; (first | refine' pow2 (by omega) (by omega) ?_ | refine' pow3 (by omega) (by omega) ?_ | refine' pow4 (by omega) (by omega) ?_); k_whole; intro wmt9 wmk9)
  k_with "binaryOp Add int int" => (k_here; refine' addT ?_; k_whole; intro wmt9 wmk9)
  k_with "binaryOp Sub int int" => (k_here; refine' subT ?_; k_whole; intro wmt9 wmk9)
  unfold CallOk
  k_fill
  intro dp un gd cn cs a ccd cl outer A₀ base h₀ L m s Q E B F X NN T hk hd hu hret
  refine wpAny_call ?_
  k_dflt cell_enter
  k_with "pyIter bytes" => k_state (fun pre o => o = bval pre ∧ 0 ≤ o ∧ o < 256 ^ pre.length) "told"
  k_with "state" => first | exact bval_nil | exact bval_step (by assumption) (by assumption) (by assumption) (by assumption) (by assumption)
  k_steps
  all_goals (refine' endI (Q := Q) (s := s) hret ?eF ?eN ?eS ?eE; (case eF => assumption); (case eN => assumption); (case eS => kcj_all); (case eE => assumption))

end
section



theorem named_eq {α : Type} {a b : α} {P : Prop} (_h : a = b) (h : ∀ y, y = b → P) : P := h b rfl
theorem ptIs_mk {news : Led} {d : Addr} {x y : Int} {t1 t2 : Tok} {c : Nat} (hm : (d, tup2 x y t1 t2 c) ∈ news) (hx : Sm x) (hy : Sm y) : PtIs news (.ref d) (some (x, y)) := ⟨d, t1, t2, c, rfl, hm, hx, hy⟩
theorem lrec_none {P N A B Gx Gy z v r s c e y : Int} (hc : (r * r * r + A * r + B) % P = c) (he : (P + 1) / 4 = e) (hy : c ^ e.toNat % P = y)
    (h : v < 27 ∨ v > 28 ∨ y * y % P ≠ c ∨ r % N = 0 ∨ s % N = 0) : lrec P N A B Gx Gy z v r s = none := by
  subst hc he hy
  unfold lrec
  dsimp only
  rw [if_pos h]
theorem lrec_even {P N A B Gx Gy z v r s c e y q p9 X Y : Int} (hc : (r * r * r + A * r + B) % P = c) (he : (P + 1) / 4 = e) (hy : c ^ e.toNat % P = y)
    (h : ¬ (v < 27 ∨ v > 28 ∨ y * y % P ≠ c ∨ r % N = 0 ∨ s % N = 0)) (hq : (y + v) % 2 = q) (h0 : q = 0) (hp : r ^ (N - 2).toNat % N = p9)
    (hR : (X, Y) = flatI (lsumI P A (ltI P A (s * p9 % N).toNat none (some (r, P - y))) (ltI P A ((0 - z * p9) % N).toNat none (some (Gx, Gy))))) :
    lrec P N A B Gx Gy z v r s = some (X, Y) := by
  subst hc he hy hp
  rw [hR]
  unfold lrec
  dsimp only
  rw [if_neg h, if_pos (hq.trans h0)]
theorem lrec_odd {P N A B Gx Gy z v r s c e y q p9 X Y : Int} (hc : (r * r * r + A * r + B) % P = c) (he : (P + 1) / 4 = e) (hy : c ^ e.toNat % P = y)
    (h : ¬ (v < 27 ∨ v > 28 ∨ y * y % P ≠ c ∨ r % N = 0 ∨ s % N = 0)) (hq : (y + v) % 2 = q) (h0 : q ≠ 0) (hp : r ^ (N - 2).toNat % N = p9)
    (hR : (X, Y) = flatI (lsumI P A (ltI P A (s * p9 % N).toNat none (some (r, y))) (ltI P A ((0 - z * p9) % N).toNat none (some (Gx, Gy))))) :
    lrec P N A B Gx Gy z v r s = some (X, Y) := by
  subst hc he hy hp
  rw [hR]
  unfold lrec
  dsimp only
  rw [if_neg h, if_neg (fun k => h0 (hq.symm.trans k))]



theorem lrecd_ok {w mean mg mb} {cv : Addr} {z v r s3 P N A B Gx Gy : Int} {tz t1 t2 t3 u1 u2 u3 u4 u5 u6 : Tok} {c' : Nat} {news : Led}
   (hc : (cv, tup6 P N A B Gx Gy u1 u2 u3 u4 u5 u6 c') ∈ news) (hs : (2 < P ∧ Sm P ∧ Sm A ∧ Sm B) ∧ (Sm Gx ∧ Sm Gy) ∧ (2 < N ∧ N < 2 ^ 20) ∧ Sm v ∧ Sm r) :
   CallOk w mean mg mb 154 8 [.ref cv, .int z tz, .int v t1, .int r t2, .int s3 t3] news (ResO (fun x => ∃ t, x = .str (Str.ofString "refused") t) (lrec P N A B Gx Gy z v r s3)) := by
  k_with_none
  k_with "binaryOp Mod int int" => (k_here; refine' modN (by first | decide | assumption | omega) ?_; k_whole; intro wmr wmt9 wmk9 wme wml wmu)
  k_with "binaryOp FloorDiv int int" => (k_here; refine' divN (by first | decide | assumption | omega) (by first | decide | omega) ?_; k_whole; intro wmr wmt9 wmk9 wme)
  k_with "binaryOp Mult int int" => (k_here; refine' mulT (by first | exact okL (by decide) (by decide) | exact okR (by decide) (by decide) | exact okLs (by assumption) (by assumption) | exact okRs (by assumption) (by assumption) | exact okLP (by assumption) (by assumption) (by assumption) | exact okRP (by assumption) (by assumption) (by assumption) | exact okL (by omega) (by omega) | exact okR (by omega) (by omega)) ?_; k_whole; intro wmt9 wmk9)
  k_with "binaryOp Pow int int" => (k_here; (first | refine' pow2 (by omega) (by omega) ?_ | refine' pow3 (by omega) (by omega) ?_ | refine' pow4 (by omega) (by omega) ?_); k_whole; intro wmt9 wmk9)
  k_with "binaryOp Add int int" => (k_here; refine' addT ?_; k_whole; intro wmt9 wmk9)
  k_with "binaryOp Sub int int" => (k_here; refine' subT ?_; k_whole; intro wmt9 wmk9)
  k_with "call builtin:pow" => (k_here; refine' powN3 (by omega) (by omega) ?_; k_whole; intro wpr wpt9 wpk9 wpe wpl wpu)
  k_with "isTrue BoolOp" => (k_here; (with_reducible show wpAny _ _ (isTrue (Expr.BoolOp BoolOp.Or _ _) _ _) _ _ _); (fail_if_success (have pass9 : Pass := by assumption)); refine Hold.of ?_)
  k_with "call ref" => (k_here; (with_reducible show wpAny _ _ (call (Value.ref 119) _) _ _ _); k_dflt (refine' callOk_use (by k_asm) (by k_asm) (by k_asm) (by k_asm) (by k_asm) (by first | exact rfl | assumption) (lsumV_ok (by first | assumption | exact PtIs.up (by assumption) (by kcj_all)) (by first | assumption | exact PtIs.up (by assumption) (by kcj_all)) (by k_mem) (by ((repeat' (first | assumption | with_reducible apply And.intro)); all_goals omega))) (by ktr_room) (by ktr_units) ?_; intro wr9 wnw9 wh9 wtk9 wF9 wN9 wo9; (have pt9 := ptIs_N wN9 wo9); (try k_sweep); (try dsimp only); (try k_fold)))
  k_with "call ref" => (k_here; (with_reducible show wpAny _ _ (call (Value.ref 126) _) _ _ _); k_dflt (refine' callOk_use (by k_asm) (by k_asm) (by k_asm) (by k_asm) (by k_asm) (by first | exact rfl | assumption) (times_ok (by (first | assumption | exact PtIs.up (by assumption) (by kcj_all) | exact ptIs_mk (by k_mem) (by omega) (by omega) | exact rfl)) (by k_mem) (by ((repeat' (first | assumption | with_reducible apply And.intro)); all_goals omega))) (by ktr_room) (by ktr_units) ?_; intro wr9 wnw9 wh9 wtk9 wF9 wN9 wo9; (have pt9 := ptIs_N wN9 wo9); (try k_sweep); (try dsimp only); (try k_fold)))
  k_with "call ref" => (k_here; (with_reducible show wpAny _ _ (call (Value.ref 133) _) _ _ _); k_dflt (refine' callOk_use (by k_asm) (by k_asm) (by k_asm) (by k_asm) (by k_asm) (by first | exact rfl | assumption) (flat_ok (by (first | assumption | exact PtIs.up (by assumption) (by kcj_all) | exact ptIs_mk (by k_mem) (by omega) (by omega) | exact rfl))) (by ktr_room) (by ktr_units) ?_; rintro wr9 wnw9 wh9 wtk9 wF9 wN9 ⟨wD9, wX9, wY9, ws91, ws92, wd9, we9, ⟨wX9l, wX9u⟩, ⟨wY9l, wY9u⟩, we91, we92⟩; subst we91; subst we92; (try simp only [List.cons_append, List.nil_append] at wN9); (try k_sweep); (try dsimp only); (try k_fold)))
  unfold CallOk
  k_fill
  intro dp un gd cn cs a ccd cl outer A₀ base h₀ L m s Q E BB F X NN TT hk hd hu hret
  obtain ⟨⟨hP0, ⟨hP1, hP2⟩, ⟨hA1, hA2⟩, hB1, hB2⟩, ⟨⟨hx1, hx2⟩, hy1, hy2⟩, ⟨hN1, hN2⟩, ⟨hv1, hv2⟩, hr1, hr2⟩ := hs
  refine wpAny_call ?_
  k_dflt cell_enter
  k_steps
  unfold Hold
  rename (r * r * r + A * r + B) % P = _ => ec
  refine named_eq ec ?_
  intro c0 ec0
  subst ec0
  rename c0 ^ _ % P = _ => ey
  refine named_eq ey ?_
  intro y0 ey0
  subst ey0
  refine' cutB ?F ?N (v < 27 ∨ v > 28 ∨ y0 * y0 % P ≠ c0 ∨ r % N = 0 ∨ s3 % N = 0) ?h ?k
  case F => assumption
  case N => assumption
  case h =>
    intro Q9 pass hq
    k_steps
    all_goals (refine hq _ _ _ (by assumption) (news_sub (by assumption) (by kcj_all)) ?_; first | exact ⟨fun _ => by omega, fun _ => rfl⟩ | exact ⟨(fun k => nomatch k), fun k => absurd k (by omega)⟩)
  case k =>
    intro b9 h9 tk9 F9 N9 hb9
    (try k_sweep)
    (try dsimp only)
    (try k_fold)
    k_steps
    all_goals first
      | exact endO_none (Q := Q) (s := s) hret (by assumption) (by assumption) (by kcj_all) (lrec_none ec (by assumption) ey (b_yes hb9 (by assumption))) ⟨_, rfl⟩
      | (have hb8 : ¬ (v < 27 ∨ v > 28 ∨ y0 * y0 % P ≠ c0 ∨ r % N = 0 ∨ s3 % N = 0) := by first | exact b_no hb9 (by assumption) | exact b_no' hb9 (by assumption)
         refine endO_some (Q := Q) (s := s) hret (by assumption) (by assumption) (by k_mem) (by kcj_all) ?_ rfl (by omega) (by omega)
         first
         | exact lrec_even ec (by assumption) ey hb8 (by assumption) (by assumption) (by assumption) (by assumption)
         | exact lrec_odd ec (by assumption) ey hb8 (by assumption) (by assumption) (by assumption) (by assumption))

end
section

/-- what _law_at gives -/
def atI (ns : List Int) (k : Int) : Int := ns.getD k.toNat (5 * k + 2)
theorem at_lt {ns : List Int} {k : Int} (h0 : 0 ≤ k) (h : k < (ns.length : Int)) : ns.getD k.toNat 0 = atI ns k := by
  unfold atI
  rw [List.getD_eq_getElem?_getD, List.getD_eq_getElem?_getD, List.getElem?_eq_getElem (by omega)]
  rfl
theorem at_ge {ns : List Int} {k : Int} (h0 : 0 ≤ k) (h : ¬ k < (ns.length : Int)) : 5 * k + 2 = atI ns k := by
  unfold atI
  rw [List.getD_eq_getElem?_getD, List.getElem?_eq_none (by omega)]
  rfl
theorem at_ok {w mean mg mb} {l : Addr} {vs : List Value} {ns : List Int} {t : Tok} {k : Int} {news : Led} (hI : IntsAre vs ns) (hn : ns.length ≤ 63) (hk7 : 0 ≤ k ∧ k < 7) :
  CallLawP w mean mg mb 112 [.ref l, .int k t] news (fun h => h.IsList l vs.toArray) (ResI (atI ns k)) := by
  k_with_none
  k_with "binaryOp Mod int int" => (k_here; refine' modN (by first | decide | assumption | omega) ?_; k_whole; intro wmr wmt9 wmk9 wme wml wmu)
  k_with "binaryOp FloorDiv int int" => (k_here; refine' divN (by first | decide | assumption | omega) (by first | decide | omega) ?_; k_whole; intro wmr wmt9 wmk9 wme)
  k_with "binaryOp Mult int int" => (k_here; refine' mulT (by first | exact okL (by decide) (by decide) | exact okR (by decide) (by decide) | exact okLs (by assumption) (by assumption) | exact okRs (by assumption) (by assumption) | exact okLP (by assumption) (by assumption) (by assumption) | exact okRP (by assumption) (by assumption) (by assumption) | exact okL (by omega) (by omega) | exact okR (by omega) (by omega)) ?_; k_whole; intro wmt9 wmk9)
  k_with "binaryOp Pow int int" => (k_here; (first | refine' pow2 (by omega) (by omega) ?_ | refine' pow3 (by omega) (by omega) ?_ | refine' pow4 (by omega) (by omega) ?_); k_whole; intro wmt9 wmk9)
  k_with "binaryOp Add int int" => (k_here; refine' addT ?_; k_whole; intro wmt9 wmk9)
  k_with "binaryOp Sub int int" => (k_here; refine' subT ?_; k_whole; intro wmt9 wmk9)
  unfold CallLawP
  k_fill
  intro cn cs a ccd h₀ L m s Q E BB F X NN T hk hL hret
  obtain ⟨hk0, hk7⟩ := hk7
  refine wpAny_call ?_
  k_dflt (refine' code_defS0 ?k1 ?k2 ?k3 ?k4 ?k5 ?kA ?k6 ?k7 ?k8 ?k9 ?kB ?_ ?cK ?c2 ?c3 ?c4 ?c5; (case kA => exact rfl); (case k2 => k_asm); (case k1 => k_asm); (case k3 => k_asm); (case k4 => k_asm); (case k5 => k_asm); (case k6 => k_is); (case k7 => k_is); (case k8 => k_room); (case k9 => exact BindsTo.of_eq rfl); (case kB => exact locs rfl); (case cK => assumption); (case c2 => exact rfl); (case c3 => exact rfl); (case c4 => exact rfl); (case c5 => decide); k_whole; intro g' L' h' FG' F' N' B' X' T' D'; (try dsimp only); (try k_lift B'); (try k_fold))
  k_steps
  · refine hret _ [] _ _ (by assumption) (by assumption) ?_
    rw [at_lt hk0 (by assumption)]
    exact ⟨_, rfl, rfl⟩
  · refine hret _ [] _ _ (by assumption) (by assumption) ?_
    rw [at_ge hk0 (by assumption)]
    exact ⟨_, rfl, rfl⟩

section
variable {prog : Program} {w : World} {A : Around} {E Q : Value → Shared → Prop} {s : Shared} {h₀ : Heap} {L : Addr} {m : Str → Option Value} {news : Led}
theorem tup6_lit {env : Env} {c1 c2 c3 c4 c5 c6 : Int} {k1 k2 k3 k4 k5 k6 k : Nat} {p1 p2 p3 p4 p5 p6 p : Pos} (F : Fr h₀ L s.heap m) (N : News h₀ L s.heap news)
    (h : ∀ D t1 t2 t3 t4 t5 t6 c h' tk', Fr h₀ L h' m → News h₀ L h' ((D, tup6 c1 c2 c3 c4 c5 c6 t1 t2 t3 t4 t5 t6 c) :: news) → Q (.ref D) { s with heap := h', toks := tk' }) :
    wpAny (model prog w) A (eval (PySem.Expr.Tuple [.Constant (.int c1) k1 p1, .Constant (.int c2) k2 p2, .Constant (.int c3) k3 p3, .Constant (.int c4) k4 p4, .Constant (.int c5) k5 p5, .Constant (.int c6) k6 p6] k p) env) Q E s := by
  k_with_none
  k_with "binaryOp Mod int int" => (k_here; refine' modN (by first | decide | assumption | omega) ?_; k_whole; intro wmr wmt9 wmk9 wme wml wmu)
  k_with "binaryOp FloorDiv int int" => (k_here; refine' divN (by first | decide | assumption | omega) (by first | decide | omega) ?_; k_whole; intro wmr wmt9 wmk9 wme)
  k_with "binaryOp Mult int int" => (k_here; refine' mulT (by first | exact okL (by decide) (by decide) | exact okR (by decide) (by decide) | exact okLs (by assumption) (by assumption) | exact okRs (by assumption) (by assumption) | exact okLP (by assumption) (by assumption) (by assumption) | exact okRP (by assumption) (by assumption) (by assumption) | exact okL (by omega) (by omega) | exact okR (by omega) (by omega)) ?_; k_whole; intro wmt9 wmk9)
  k_with "binaryOp Pow int int" => (k_here; (first | refine' pow2 (by omega) (by omega) ?_ | refine' pow3 (by omega) (by omega) ?_ | refine' pow4 (by omega) (by omega) ?_); k_whole; intro wmt9 wmk9)
  k_with "binaryOp Add int int" => (k_here; refine' addT ?_; k_whole; intro wmt9 wmk9)
  k_with "binaryOp Sub int int" => (k_here; refine' subT ?_; k_whole; intro wmt9 wmk9)
  k_steps
  exact h _ _ _ _ _ _ _ _ _ _ (by assumption) (by assumption)
end


/-- the law's curves -/
def curvesN : List (Nat × Nat × Nat × Nat × Nat × Nat) := [(11, 13, 1, 6, 2, 4), (11, 17, 6, 5, 1, 1), (19, 13, 0, 2, 4, 16), (19, 13, 0, 3, 1, 17), (31, 43, 0, 3, 1, 2), (43, 31, 0, 7, 2, 31), (43, 37, 6, 5, 2, 38), (67, 79, 0, 7, 2, 22), (67, 73, 0, 2, 2, 55), (79, 67, 0, 7, 1, 18), (79, 97, 0, 3, 1, 2), (127, 127, 0, 7, 1, 32), (127, 127, 0, 3, 1, 2), (1019, 1033, 1, 20, 7, 215), (1019, 1031, 1, 23, 1, 5), (1019, 1009, 1, 24, 1, 364), (10007, 9851, 1, 28, 2, 5425), (10007, 10079, 1, 38, 2, 4099), (10007, 9851, 1, 48, 1, 6809), (65519, 65357, 2, 54, 4, 34290), (65519, 65101, 3, 53, 4, 23366)]
/-- d holds a curve of the law's -/
def IsCrv (led : Led) (v : Value) (c : Nat × Nat × Nat × Nat × Nat × Nat) : Prop :=
  ∃ d u1 u2 u3 u4 u5 u6 n, v = .ref d ∧ (d, tup6 (c.1 : Int) (c.2.1 : Int) (c.2.2.1 : Int) (c.2.2.2.1 : Int) (c.2.2.2.2.1 : Int) (c.2.2.2.2.2 : Int) u1 u2 u3 u4 u5 u6 n) ∈ led
inductive AreCrv (led : Led) : List Value → List (Nat × Nat × Nat × Nat × Nat × Nat) → Prop
  | nil : AreCrv led [] []
  | cons {v c vs cs} : IsCrv led v c → AreCrv led vs cs → AreCrv led (v :: vs) (c :: cs)
def ResC (r : Value) (nw : Led) : Prop := ∃ l vs n, r = .ref l ∧ (l, listOf vs.toArray n) ∈ nw ∧ AreCrv nw vs curvesN
theorem curves_ok {w mean mg mb} : CallLaw w mean mg mb 105 [] [] ResC := by
  k_with_none
  k_with "binaryOp Mod int int" => (k_here; refine' modN (by first | decide | assumption | omega) ?_; k_whole; intro wmr wmt9 wmk9 wme wml wmu)
  k_with "binaryOp FloorDiv int int" => (k_here; refine' divN (by first | decide | assumption | omega) (by first | decide | omega) ?_; k_whole; intro wmr wmt9 wmk9 wme)
  k_with "binaryOp Mult int int" => (k_here; refine' mulT (by first | exact okL (by decide) (by decide) | exact okR (by decide) (by decide) | exact okLs (by assumption) (by assumption) | exact okRs (by assumption) (by assumption) | exact okLP (by assumption) (by assumption) (by assumption) | exact okRP (by assumption) (by assumption) (by assumption) | exact okL (by omega) (by omega) | exact okR (by omega) (by omega)) ?_; k_whole; intro wmt9 wmk9)
  k_with "binaryOp Pow int int" => (k_here; (first | refine' pow2 (by omega) (by omega) ?_ | refine' pow3 (by omega) (by omega) ?_ | refine' pow4 (by omega) (by omega) ?_); k_whole; intro wmt9 wmk9)
  k_with "binaryOp Add int int" => (k_here; refine' addT ?_; k_whole; intro wmt9 wmk9)
  k_with "binaryOp Sub int int" => (k_here; refine' subT ?_; k_whole; intro wmt9 wmk9)
  k_with "eval Tuple" => (k_here; (with_reducible refine' tup6_lit (by k_asm) (by k_asm) ?_; intro wD9 wta9 wtb9 wtc9 wtd9 wte9 wtf9 wc9 wh9 wtk9 wF9 wN9; (try k_sweep); (try dsimp only); (try k_fold)))
  unfold CallLaw CallLawP
  k_fill
  intro cn cs a ccd h₀ L m s Q E BB F X NN T hk _ hret
  refine wpAny_call ?_
  k_dflt (refine' code_defS0 ?k1 ?k2 ?k3 ?k4 ?k5 ?kA ?k6 ?k7 ?k8 ?k9 ?kB ?_ ?cK ?c2 ?c3 ?c4 ?c5; (case kA => exact rfl); (case k2 => k_asm); (case k1 => k_asm); (case k3 => k_asm); (case k4 => k_asm); (case k5 => k_asm); (case k6 => k_is); (case k7 => k_is); (case k8 => k_room); (case k9 => exact BindsTo.of_eq rfl); (case kB => exact locs rfl); (case cK => assumption); (case c2 => exact rfl); (case c3 => exact rfl); (case c4 => exact rfl); (case c5 => decide); k_whole; intro g' L' h' FG' F' N' B' X' T' D'; (try dsimp only); (try k_lift B'); (try k_fold))
  k_steps
  rename News h₀ _ _ _ => N9
  refine hret _ _ _ _ (by assumption) (by rw [List.append_nil]; exact N9) ⟨_, _, _, rfl, List.Mem.head _, ?_⟩
  unfold curvesN
  repeat (refine AreCrv.cons ⟨_, _, _, _, _, _, _, _, rfl, by k_mem⟩ ?_)
  exact AreCrv.nil

end
section
/-- what the law's walk wants of a curve -/
def CrvOK (c : Nat × Nat × Nat × Nat × Nat × Nat) : Prop :=
  ∃ (_ : NeZero c.1) (_ : NeZero c.2.1), Crv c.1 c.2.1 (c.2.2.1 : Int) (c.2.2.2.1 : Int) (c.2.2.2.2.1 : Int) (c.2.2.2.2.2 : Int) ∧ c.1 % 4 = 3 ∧ c.2.1 % 2 = 1
theorem crvOK_of {p N a b gx gy : Nat} (k : Nat) (hp : p ≠ 0) (hN : N ≠ 0) (h : crvC p N a b gx gy = true) (hr : rootC p a b k = true) (h4 : p % 4 = 3) (h2 : N % 2 = 1) : CrvOK (p, N, a, b, gx, gy) :=
  ⟨⟨hp⟩, ⟨hN⟩, @crv_of p N a b gx gy k ⟨hp⟩ ⟨hN⟩ h hr, h4, h2⟩
/-- where the bound on the order does not serve: the points are counted -/
def crvC2 (p N a b gx gy : Nat) : Bool :=
  prmC p 8 && prmC N 8 && decide ((gx * gx * gx + a * gx + b) % p = gy * gy % p) && decide (gx < p) && decide (gy < p) && decide (p ≠ 2)
theorem crv_of2 {p N a b gx gy k : Nat} [NeZero p] [NeZero N] (h : crvC2 p N a b gx gy = true) (hr : rootC p a b k = true) (hl : (ptsOf (fc p (a : Int)) (fc p (b : Int))).length = N) : Crv p N (a : Int) (b : Int) (gx : Int) (gy : Int) := by
  unfold crvC2 at h
  simp only [Bool.and_eq_true, decide_eq_true_eq] at h
  obtain ⟨⟨⟨⟨⟨h1, h2⟩, h5⟩, h6⟩, h7⟩, h9⟩ := h
  have hp := prm_of h1
  have C := cv_of hp h9 (root_of hr)
  have G : On (fc p (a : Int)) (fc p (b : Int)) (some (fc p (gx : Int), fc p (gy : Int))) := by
    have e : fc p ((gx : Int) * gx * gx + (a : Int) * gx + (b : Int)) = fc p ((gy : Int) * gy) := by
      rw [fc_eq]
      have q1 : (((gx * gx * gx + a * gx + b : Nat) % p : Nat) : Int) = ((gy * gy % p : Nat) : Int) := by rw [h5]
      rw [Int.natCast_emod, Int.natCast_emod] at q1
      simpa using q1
    rw [fc_add, fc_add, fc_mul, fc_mul, fc_mul, fc_mul] at e
    exact e.symm
  exact ⟨hp, prm_of h2, C, hl ▸ tor_pts C, G, ⟨by omega, by omega⟩, ⟨by omega, by omega⟩⟩
theorem crvOK_of2 {p N a b gx gy : Nat} (k : Nat) (hp : p ≠ 0) (hN : N ≠ 0) (h : crvC2 p N a b gx gy = true) (hr : rootC p a b k = true) (hl : (ptsOf (@fc p ⟨hp⟩ (a : Int)) (@fc p ⟨hp⟩ (b : Int))).length = N) (h4 : p % 4 = 3) (h2 : N % 2 = 1) : CrvOK (p, N, a, b, gx, gy) :=
  ⟨⟨hp⟩, ⟨hN⟩, @crv_of2 p N a b gx gy k ⟨hp⟩ ⟨hN⟩ h hr hl, h4, h2⟩

theorem crvOK_0 : CrvOK (11, 13, 1, 6, 2, 4) := crvOK_of 4 (by decide) (by decide) (by decide +kernel) (by decide +kernel) (by decide) (by decide)
theorem crvOK_1 : CrvOK (11, 17, 6, 5, 1, 1) := crvOK_of 4 (by decide) (by decide) (by decide +kernel) (by decide +kernel) (by decide) (by decide)
theorem crvOK_2 : CrvOK (19, 13, 0, 2, 4, 16) := crvOK_of2 5 (by decide) (by decide) (by decide +kernel) (by decide +kernel) (by decide +kernel) (by decide) (by decide)
theorem crvOK_3 : CrvOK (19, 13, 0, 3, 1, 17) := crvOK_of2 5 (by decide) (by decide) (by decide +kernel) (by decide +kernel) (by decide +kernel) (by decide) (by decide)
theorem crvOK_4 : CrvOK (31, 43, 0, 3, 1, 2) := crvOK_of 5 (by decide) (by decide) (by decide +kernel) (by decide +kernel) (by decide) (by decide)
theorem crvOK_5 : CrvOK (43, 31, 0, 7, 2, 31) := crvOK_of 6 (by decide) (by decide) (by decide +kernel) (by decide +kernel) (by decide) (by decide)
theorem crvOK_6 : CrvOK (43, 37, 6, 5, 2, 38) := crvOK_of 6 (by decide) (by decide) (by decide +kernel) (by decide +kernel) (by decide) (by decide)
theorem crvOK_7 : CrvOK (67, 79, 0, 7, 2, 22) := crvOK_of 7 (by decide) (by decide) (by decide +kernel) (by decide +kernel) (by decide) (by decide)
theorem crvOK_8 : CrvOK (67, 73, 0, 2, 2, 55) := crvOK_of 7 (by decide) (by decide) (by decide +kernel) (by decide +kernel) (by decide) (by decide)
theorem crvOK_9 : CrvOK (79, 67, 0, 7, 1, 18) := crvOK_of 7 (by decide) (by decide) (by decide +kernel) (by decide +kernel) (by decide) (by decide)
theorem crvOK_10 : CrvOK (79, 97, 0, 3, 1, 2) := crvOK_of 7 (by decide) (by decide) (by decide +kernel) (by decide +kernel) (by decide) (by decide)
theorem crvOK_11 : CrvOK (127, 127, 0, 7, 1, 32) := crvOK_of 7 (by decide) (by decide) (by decide +kernel) (by decide +kernel) (by decide) (by decide)
theorem crvOK_12 : CrvOK (127, 127, 0, 3, 1, 2) := crvOK_of 7 (by decide) (by decide) (by decide +kernel) (by decide +kernel) (by decide) (by decide)
theorem crvOK_13 : CrvOK (1019, 1033, 1, 20, 7, 215) := crvOK_of 10 (by decide) (by decide) (by decide +kernel) (by decide +kernel) (by decide) (by decide)
theorem crvOK_14 : CrvOK (1019, 1031, 1, 23, 1, 5) := crvOK_of 10 (by decide) (by decide) (by decide +kernel) (by decide +kernel) (by decide) (by decide)
theorem crvOK_15 : CrvOK (1019, 1009, 1, 24, 1, 364) := crvOK_of 10 (by decide) (by decide) (by decide +kernel) (by decide +kernel) (by decide) (by decide)
theorem crvOK_16 : CrvOK (10007, 9851, 1, 28, 2, 5425) := crvOK_of 14 (by decide) (by decide) (by decide +kernel) (by decide +kernel) (by decide) (by decide)
theorem crvOK_17 : CrvOK (10007, 10079, 1, 38, 2, 4099) := crvOK_of 14 (by decide) (by decide) (by decide +kernel) (by decide +kernel) (by decide) (by decide)
theorem crvOK_18 : CrvOK (10007, 9851, 1, 48, 1, 6809) := crvOK_of 14 (by decide) (by decide) (by decide +kernel) (by decide +kernel) (by decide) (by decide)
theorem crvOK_19 : CrvOK (65519, 65357, 2, 54, 4, 34290) := crvOK_of 16 (by decide) (by decide) (by decide +kernel) (by decide +kernel) (by decide) (by decide)
theorem crvOK_20 : CrvOK (65519, 65101, 3, 53, 4, 23366) := crvOK_of 16 (by decide) (by decide) (by decide +kernel) (by decide +kernel) (by decide) (by decide)

/-- what the walk of the first law knows of its curve -/
structure CrvI (P N A B Gx Gy : Int) : Prop where
  bnd : (2 < P ∧ Sm P ∧ Sm A ∧ Sm B) ∧ (Sm Gx ∧ Sm Gy) ∧ (2 < N ∧ N < 2 ^ 20)
  crv : ∃ (p N' : Nat) (_ : NeZero p) (_ : NeZero N'), P = (p : Int) ∧ N = (N' : Int) ∧ Crv p N' A B Gx Gy ∧ p % 4 = 3 ∧ N' % 2 = 1
theorem crvI_of {c : Nat × Nat × Nat × Nat × Nat × Nat} (h : CrvOK c) (hb : 2 < c.1 ∧ c.1 < 2 ^ 20 ∧ c.2.2.1 < 2 ^ 20 ∧ c.2.2.2.1 < 2 ^ 20 ∧ c.2.2.2.2.1 < 2 ^ 20 ∧ c.2.2.2.2.2 < 2 ^ 20 ∧ 2 < c.2.1 ∧ c.2.1 < 2 ^ 20) :
    CrvI (c.1 : Int) (c.2.1 : Int) (c.2.2.1 : Int) (c.2.2.2.1 : Int) (c.2.2.2.2.1 : Int) (c.2.2.2.2.2 : Int) := by
  obtain ⟨i1, i2, K, h4, h2⟩ := h
  refine ⟨?_, ⟨c.1, c.2.1, i1, i2, rfl, rfl, K, h4, h2⟩⟩
  obtain ⟨b1, b2, b3, b4, b5, b6, b7, b8⟩ := hb
  refine ⟨⟨?_, ⟨?_, ?_⟩, ⟨?_, ?_⟩, ?_, ?_⟩, ⟨⟨?_, ?_⟩, ?_, ?_⟩, ?_, ?_⟩ <;> omega
section
variable {P N A B Gx Gy : Int}
theorem kmod {k N : Int} (h0 : 0 < k) (h1 : k < N) : k % N ≠ 0 := by
  rw [Int.emod_eq_of_lt (by omega) h1]; omega
theorem ltI_G (K : CrvI P N A B Gx Gy) (k : Int) : flatI (ltI P A (k % N).toNat none (some (Gx, Gy))) = pmul P N A Gx Gy k := by
  obtain ⟨p, N', i1, i2, rfl, rfl, K, _⟩ := K.crv
  have h := ltI_zsm K K.rx K.ry K.G k
  rw [← flat_toF h.1, h.2, pmul_spec K.hp K.C K.ry K.G k]
theorem ltI_some (K : CrvI P N A B Gx Gy) {k : Int} (hk : k % N ≠ 0) : ltI P A (k % N).toNat none (some (Gx, Gy)) = some (pmul P N A Gx Gy k) := by
  rw [← ltI_G K]
  obtain ⟨p, N', i1, i2, rfl, rfl, K, _⟩ := K.crv
  have h := ltI_zsm K K.rx K.ry K.G k
  have hne := zsm_ne K hk
  match hS : ltI (p : Int) A (k % (N' : Int)).toNat none (some (Gx, Gy)) with
  | none => rw [hS] at h; exact absurd h.2.symm hne
  | some T => rfl
theorem pmul_red (K : CrvI P N A B Gx Gy) {k x y : Int} (hk : k % N ≠ 0) (h : (x, y) = pmul P N A Gx Gy k) : 0 ≤ x ∧ x < P := by
  have e := ltI_some K hk
  obtain ⟨p, N', i1, i2, rfl, rfl, K, _⟩ := K.crv
  have h1 := (ltI_zsm K K.rx K.ry K.G k).1
  rw [e, ← h] at h1
  exact h1.1
theorem inv_pow (K : CrvI P N A B Gx Gy) {k i : Int} (hk : k % N ≠ 0) (hi : k ^ (N - 2).toNat % N = i) {p N' : Nat} [NeZero p] [NeZero N'] (eN : N = (N' : Int)) (K' : Crv p N' A B Gx Gy) : fc N' i = fc N' (pinv k N') := by
  subst eN
  have hkN : fc N' k ≠ 0 := fun e => hk (fcN_zero_iff.mp e)
  rw [fc_pinv K' hkN, ← hi, ← fc_inv K'.hN, fc_mod, fc_mod, fc_pow, fc_pow, fc_mod]
/-- the signature is the law's -/
theorem sign_law (K : CrvI P N A B Gx Gy) {z d k x y i s0 : Int} (hk : k % N ≠ 0) (hR : (x, y) = pmul P N A Gx Gy k) (hi : k ^ (N - 2).toNat % N = i) (hs : i * (z + x * d) % N = s0) :
    psign P N A Gx Gy z d k = if 2 * s0 ≥ N then (55 - (27 + y % 2), x, N - s0) else (27 + y % 2, x, s0) := by
  obtain ⟨p, N', i1, i2, e1, e2, K', h4, h2⟩ := K.crv
  have h9 := inv_pow K hk hi e2 K'
  subst e1 e2
  exact psign_eq K' h2 hR.symm h9 hs
/-- recovery of the signature, with either sign of s -/
theorem rec_law (K : CrvI P N A B Gx Gy) {z d k x y i s0 v s : Int} (hk : k % N ≠ 0) (hR : (x, y) = pmul P N A Gx Gy k) (hi : k ^ (N - 2).toNat % N = i) (hs : i * (z + x * d) % N = s0)
    (hvs : (v = 27 + y % 2 ∧ s = s0) ∨ (v = 55 - (27 + y % 2) ∧ s = N - s0)) :
    precover P N A B Gx Gy z v x s = if x % N = 0 ∨ s % N = 0 then none else some (pmul P N A Gx Gy d) := by
  obtain ⟨p, N', i1, i2, e1, e2, K', h4, h2⟩ := K.crv
  have h9 := inv_pow K hk hi e2 K'
  subst e1 e2
  rw [pmul_spec K'.hp K'.C K'.ry K'.G d]
  exact recover_sign K' h4 hk hR.symm h9 hs hvs
theorem rec_own (K : CrvI P N A B Gx Gy) {z v r s : Int} (h0 : 0 ≤ r) (h1 : r < P) : precover P N A B Gx Gy z v r s = lrec P N A B Gx Gy z v r s := by
  obtain ⟨p, N', i1, i2, e1, e2, K', h4, h2⟩ := K.crv
  subst e1 e2
  exact recover_eq K' ⟨h0, h1⟩
end

end
section









theorem told_ok {w mean mg mb} {cv tv : Addr} {ma : Array UInt8} {v r s3 P N A B Gx Gy : Int} {tm t1 t2 t3 u1 u2 u3 u4 u5 u6 : Tok} {c c' : Nat} {news : Led}
   (hp : (tv, tup3 v r s3 t1 t2 t3 c) ∈ news) (hc : (cv, tup6 P N A B Gx Gy u1 u2 u3 u4 u5 u6 c') ∈ news) (hs : (1 < P ∧ Sm P ∧ Sm A ∧ Sm B) ∧ (Sm Gx ∧ Sm Gy) ∧ (1 < N ∧ N < 2 ^ 20) ∧ ma.size ≤ 64 ∧ Sm v ∧ Sm r) :
   CallLaw w mean mg mb 161 [.bytes ma tm, .ref tv, .ref cv] news (ResO (fun x => ∃ t, x = .str (Str.ofString "refused") t) (precover P N A B Gx Gy (bval (KBw.bInts ma)) v r s3)) := by
  k_with_none
  k_with "binaryOp Mod int int" => (k_here; refine' modN (by first | decide | assumption | omega) ?_; k_whole; intro wmr wmt9 wmk9 wme wml wmu)
  k_with "binaryOp FloorDiv int int" => (k_here; refine' divN (by first | decide | assumption | omega) (by first | decide | omega) ?_; k_whole; intro wmr wmt9 wmk9 wme)
  k_with "binaryOp Mult int int" => (k_here; refine' mulT (by first | exact okL (by decide) (by decide) | exact okR (by decide) (by decide) | exact okLs (by assumption) (by assumption) | exact okRs (by assumption) (by assumption) | exact okLP (by assumption) (by assumption) (by assumption) | exact okRP (by assumption) (by assumption) (by assumption) | exact okL (by omega) (by omega) | exact okR (by omega) (by omega)) ?_; k_whole; intro wmt9 wmk9)
  k_with "binaryOp Pow int int" => (k_here; (first | refine' pow2 (by omega) (by omega) ?_ | refine' pow3 (by omega) (by omega) ?_ | refine' pow4 (by omega) (by omega) ?_); k_whole; intro wmt9 wmk9)
  k_with "binaryOp Add int int" => (k_here; refine' addT ?_; k_whole; intro wmt9 wmk9)
  k_with "binaryOp Sub int int" => (k_here; refine' subT ?_; k_whole; intro wmt9 wmk9)
  k_with "binaryOp BitXor int int" => (k_here; (first | refine' xor0 (by omega) (by omega) ?_ | refine' xor1 (by omega) (by omega) ?_ | refine' xorB (by omega) (by omega) (by omega) (by omega) ?_); k_whole; intro wxb wxt9 wxk9 wxe wxl wxu)
  k_with "call builtin:pow" => (k_here; refine' powN3 (by omega) (by omega) ?_; k_whole; intro wpr wpt9 wpk9 wpe wpl wpu)
  k_with "isTrue BoolOp" => (k_here; (with_reducible show wpAny _ _ (isTrue (Expr.BoolOp BoolOp.Or _ _) _ _) _ _ _); (fail_if_success (have pass9 : Pass := by assumption)); refine Hold.of ?_)
  k_with "isTrue Compare" => (k_here; (with_reducible show wpAny _ _ (isTrue (Expr.Compare _ [CmpOp.NotIn] _ _) _ _) _ _ _); (fail_if_success (have pass9 : Pass := by assumption)); refine Hold.of ?_)
  k_with "eval IfExp" => (k_here; (fail_if_success (have pass9 : Pass := by assumption)); refine Hold.of ?_)
  k_with "joinParts" => (k_here; (first | (with_reducible show wpAny _ _ (joinParts _ []) _ _ _) | (with_reducible show wpAny _ _ (joinParts _ (evalEach [] _)) _ _ _)); refine Hold.of ?_)
  k_with "call ref" => (k_here; (with_reducible show wpAny _ _ (call (Value.ref 35) _) _ _ _); k_dflt (refine' callOk_use (by k_asm) (by k_asm) (by k_asm) (by k_asm) (by k_asm) (by first | exact rfl | assumption) (inv_ok (by ((repeat' (first | assumption | with_reducible apply And.intro)); all_goals omega))) (by ktr_room) (by ktr_units) ?_; rintro wr9 wnw9 wh9 wtk9 wF9 wN9 ⟨wy9, wt9, we9, ⟨wy9l, wy9u⟩, we91, we92⟩; subst we91; subst we92; (try simp only [List.cons_append, List.nil_append] at wN9); (try k_sweep); (try dsimp only); (try k_fold)))
  k_with "call ref" => (k_here; (with_reducible show wpAny _ _ (call (Value.ref 28) _) _ _ _); k_dflt (refine' callOk_use (by k_asm) (by k_asm) (by k_asm) (by k_asm) (by k_asm) (by first | exact rfl | assumption) (bytes_ok (by first | assumption | omega)) (by ktr_room) (by ktr_units) ?_; rintro wr9 wnw9 wh9 wtk9 wF9 wN9 ⟨wt9, we91, we92⟩; subst we91; subst we92; (try simp only [List.cons_append, List.nil_append] at wN9); (try k_sweep); (try dsimp only); (try k_fold)))
  k_with "call ref" => (k_here; (with_reducible show wpAny _ _ (call (Value.ref 56) _) _ _ _); k_dflt (refine' callOk_use (by k_asm) (by k_asm) (by k_asm) (by k_asm) (by k_asm) (by first | exact rfl | assumption) (jadd_ok (by k_mem) (by k_mem) (by k_mem) (by ((repeat' (first | assumption | with_reducible apply And.intro)); all_goals omega))) (by ktr_room) (by ktr_units) ?_; rintro wr9 wnw9 wh9 wtk9 wF9 wN9 ⟨wD9, wX9, wY9, wZ9, ws91, ws92, ws93, wd9, we9, ⟨wX9l, wX9u⟩, ⟨wY9l, wY9u⟩, ⟨wZ9l, wZ9u⟩, we91, we92⟩; subst we91; subst we92; (try simp only [List.cons_append, List.nil_append] at wN9); (try k_sweep); (try dsimp only); (try k_fold)))
  k_with "call ref" => (k_here; (with_reducible show wpAny _ _ (call (Value.ref 70) _) _ _ _); k_dflt (refine' callOk_use (by k_asm) (by k_asm) (by k_asm) (by k_asm) (by k_asm) (by first | exact rfl | assumption) (jmul_ok (by k_mem) (by k_mem) (by ((repeat' (first | assumption | with_reducible apply And.intro)); all_goals omega))) (by ktr_room) (by ktr_units) ?_; rintro wr9 wnw9 wh9 wtk9 wF9 wN9 ⟨wD9, wX9, wY9, wZ9, ws91, ws92, ws93, wd9, we9, ⟨wX9l, wX9u⟩, ⟨wY9l, wY9u⟩, ⟨wZ9l, wZ9u⟩, we91, we92⟩; subst we91; subst we92; (try simp only [List.cons_append, List.nil_append] at wN9); (try k_sweep); (try dsimp only); (try k_fold)))
  k_with "call ref" => (k_here; (with_reducible show wpAny _ _ (call (Value.ref 42) _) _ _ _); k_dflt (refine' callOk_use (by k_asm) (by k_asm) (by k_asm) (by k_asm) (by k_asm) (by first | exact rfl | assumption) (toJ_ok (by k_mem) (by ((repeat' (first | assumption | with_reducible apply And.intro)); all_goals omega))) (by ktr_room) (by ktr_units) ?_; rintro wr9 wnw9 wh9 wtk9 wF9 wN9 ⟨wD9, wX9, wY9, wZ9, ws91, ws92, ws93, wd9, we9, ⟨wX9l, wX9u⟩, ⟨wY9l, wY9u⟩, ⟨wZ9l, wZ9u⟩, we91, we92⟩; subst we91; subst we92; (try simp only [List.cons_append, List.nil_append] at wN9); (try k_sweep); (try dsimp only); (try k_fold)))
  k_with "call ref" => (k_here; (with_reducible show wpAny _ _ (call (Value.ref 63) _) _ _ _); k_dflt (refine' callOk_use (by k_asm) (by k_asm) (by k_asm) (by k_asm) (by k_asm) (by first | exact rfl | assumption) (fromJ_ok (by k_mem) (by k_mem) (by ((repeat' (first | assumption | with_reducible apply And.intro)); all_goals omega))) (by ktr_room) (by ktr_units) ?_; rintro wr9 wnw9 wh9 wtk9 wF9 wN9 ⟨wD9, wX9, wY9, ws91, ws92, wd9, we9, ⟨wX9l, wX9u⟩, ⟨wY9l, wY9u⟩, we91, we92⟩; subst we91; subst we92; (try simp only [List.cons_append, List.nil_append] at wN9); (try k_sweep); (try dsimp only); (try k_fold)))
  unfold CallLaw CallLawP
  k_fill
  intro cn cs a ccd h₀ L m s Q E BB F X NN T hk _ hret
  obtain ⟨⟨hP0, ⟨hP1, hP2⟩, ⟨hA1, hA2⟩, hB1, hB2⟩, ⟨⟨hx1, hx2⟩, hy1, hy2⟩, ⟨hN1, hN2⟩, hb1, ⟨hv1, hv2⟩, hr1, hr2⟩ := hs
  refine wpAny_call ?_
  k_dflt (refine' code_defS0 ?k1 ?k2 ?k3 ?k4 ?k5 ?kA ?k6 ?k7 ?k8 ?k9 ?kB ?_ ?cK ?c2 ?c3 ?c4 ?c5; (case kA => exact rfl); (case k2 => k_asm); (case k1 => k_asm); (case k3 => k_asm); (case k4 => k_asm); (case k5 => k_asm); (case k6 => k_is); (case k7 => k_is); (case k8 => k_room); (case k9 => exact BindsTo.of_eq rfl); (case kB => exact locs rfl); (case cK => assumption); (case c2 => exact rfl); (case c3 => exact rfl); (case c4 => exact rfl); (case c5 => decide); k_whole; intro g' L' h' FG' F' N' B' X' T' D'; (try dsimp only); (try k_lift B'); (try k_fold))
  k_steps
  unfold Hold
  refine' cutB ?F ?N (¬ (v = 27 ∨ v = 28)) ?h ?k
  case F => assumption
  case N => assumption
  case h =>
    intro Q9 pass hq
    k_steps
    all_goals (refine hq _ _ _ (by assumption) (news_sub (by assumption) (by kcj_all)) notin_iff)
  case k =>
    intro b9 h9 tk9 F9 N9 hb9
    (try k_sweep)
    (try dsimp only)
    (try k_fold)
    k_steps
    · unfold Hold
      with_reducible refine joinParts_nilE ?_
      (try dsimp only)
      with_reducible refine joinParts_nil ?_ (hsz := ?z)
      rotate_left 1
      · refine jp_len ?a ?b ?c
        case a => omega
        case b => omega
        case c => decide +kernel
      k_steps
      exact endO_none (Q := Q) (s := s) hret (by assumption) (by assumption) (by kcj_all) (rec_none1 (b_yes hb9 (by assumption))) ⟨_, rfl⟩
    unfold Hold
    refine' cutI ?F ?N (fun y => y = ybeta P A B v r ∧ Sm y) ?h ?k
    case F => assumption
    case N => assumption
    case h =>
      intro Q9 pass hq
      k_steps
      all_goals (refine hq _ _ _ _ (by assumption) (news_sub (by assumption) (by kcj_all)) ⟨?_, by omega⟩; first | exact yb_1 (by assumption) (by assumption) (by assumption) (by assumption) (by assumption) (by assumption) (by assumption) | exact yb_2 (by assumption) (by assumption) (by assumption) (by assumption) (by assumption) (by assumption) (by assumption))
    case k =>
      rintro y9 t9 h8 tk8 F8 N8 ⟨hy9, hyl, hyu⟩
      (try k_sweep)
      (try dsimp only)
      (try k_fold)
      k_steps
      unfold Hold
      refine' cutB ?F ?N (recBad P N A B v r s3 = true) ?h ?k
      case F => assumption
      case N => assumption
      case h =>
        intro Q9 pass hq
        k_steps
        all_goals (refine hq _ _ _ (by assumption) (news_sub (by assumption) (by kcj_all)) ?_; first | exact rb_1 (by assumption) (by assumption) (by assumption) (by assumption) | exact rb_2 (by assumption) (by assumption) | exact rb_3 (by assumption) (by assumption) | exact rb_4 (by assumption) (by assumption) (by assumption) (by assumption) (by assumption) (by assumption) (by assumption) (by assumption))
      case k =>
        intro b8 h7 tk7 F7 N7 hb8
        (try k_sweep)
        (try dsimp only)
        (try k_fold)
        k_steps
        · unfold Hold
          with_reducible refine joinParts_nilE ?_
          (try dsimp only)
          with_reducible refine joinParts_nil ?_ (hsz := ?z2)
          rotate_left 1
          · refine jp_len ?a2 ?b2 ?c2
            case a2 => omega
            case b2 => omega
            case c2 => decide +kernel
          k_steps
          exact endO_none (Q := Q) (s := s) hret (by assumption) (by assumption) (by kcj_all) (rec_none2 (b_yes hb8 (by assumption))) ⟨_, rfl⟩
        · have hv : v = 27 ∨ v = 28 := Decidable.not_not.mp (by first | exact b_no hb9 (by assumption) | exact b_no' hb9 (by assumption))
          have hg : ¬ recBad P N A B v r s3 = true := by first | exact b_no hb8 (by assumption) | exact b_no' hb8 (by assumption)
          refine endO_some (Q := Q) (s := s) hret (by assumption) (by assumption) (by k_mem) (by kcj_all) (rec_some hv hg hy9 (by assumption) (by assumption) (by assumption) (by assumption) (by assumption) (by assumption) (by assumption)) rfl (by omega) (by omega)

end
section
section
variable {prog : Program} {w : World} {A : Around} {E : Value → Shared → Prop} {s : Shared} {h₀ : Heap} {L : Addr} {news : Led} {Q : Value → Shared → Prop} {cv : Addr} {P N' A' B Gx Gy : Int} {t1 t2 t3 t4 t5 t6 u : Tok} {c : Nat} {value slice : PySem.Expr}
theorem item6_0 (N : News h₀ L s.heap news) (hm : (cv, tup6 P N' A' B Gx Gy t1 t2 t3 t4 t5 t6 c) ∈ news) (h : Q (.int P t1) s)
    (hs : subscripted slice false (.ref cv) (.int 0 u) = operate [.ref cv, .int 0 u] (getItem (.ref cv) (.int 0 u))) (hg : ∀ r, letTemporaryGo value (.ref cv) r = pure ()) :
    wpAny (model prog w) A (subscriptTail value slice (.ref cv) (.int 0 u)) Q E s := item_tuple (News.isTup N hm) (by decide) (by decide) (j := 0) rfl rfl h hs hg
theorem item6_1 (N : News h₀ L s.heap news) (hm : (cv, tup6 P N' A' B Gx Gy t1 t2 t3 t4 t5 t6 c) ∈ news) (h : Q (.int N' t2) s)
    (hs : subscripted slice false (.ref cv) (.int 1 u) = operate [.ref cv, .int 1 u] (getItem (.ref cv) (.int 1 u))) (hg : ∀ r, letTemporaryGo value (.ref cv) r = pure ()) :
    wpAny (model prog w) A (subscriptTail value slice (.ref cv) (.int 1 u)) Q E s := item_tuple (News.isTup N hm) (by decide) (by decide) (j := 1) rfl rfl h hs hg
theorem item6_2 (N : News h₀ L s.heap news) (hm : (cv, tup6 P N' A' B Gx Gy t1 t2 t3 t4 t5 t6 c) ∈ news) (h : Q (.int A' t3) s)
    (hs : subscripted slice false (.ref cv) (.int 2 u) = operate [.ref cv, .int 2 u] (getItem (.ref cv) (.int 2 u))) (hg : ∀ r, letTemporaryGo value (.ref cv) r = pure ()) :
    wpAny (model prog w) A (subscriptTail value slice (.ref cv) (.int 2 u)) Q E s := item_tuple (News.isTup N hm) (by decide) (by decide) (j := 2) rfl rfl h hs hg
theorem item6_3 (N : News h₀ L s.heap news) (hm : (cv, tup6 P N' A' B Gx Gy t1 t2 t3 t4 t5 t6 c) ∈ news) (h : Q (.int B t4) s)
    (hs : subscripted slice false (.ref cv) (.int 3 u) = operate [.ref cv, .int 3 u] (getItem (.ref cv) (.int 3 u))) (hg : ∀ r, letTemporaryGo value (.ref cv) r = pure ()) :
    wpAny (model prog w) A (subscriptTail value slice (.ref cv) (.int 3 u)) Q E s := item_tuple (News.isTup N hm) (by decide) (by decide) (j := 3) rfl rfl h hs hg
theorem item6_4 (N : News h₀ L s.heap news) (hm : (cv, tup6 P N' A' B Gx Gy t1 t2 t3 t4 t5 t6 c) ∈ news) (h : Q (.int Gx t5) s)
    (hs : subscripted slice false (.ref cv) (.int 4 u) = operate [.ref cv, .int 4 u] (getItem (.ref cv) (.int 4 u))) (hg : ∀ r, letTemporaryGo value (.ref cv) r = pure ()) :
    wpAny (model prog w) A (subscriptTail value slice (.ref cv) (.int 4 u)) Q E s := item_tuple (News.isTup N hm) (by decide) (by decide) (j := 4) rfl rfl h hs hg
theorem item6_5 (N : News h₀ L s.heap news) (hm : (cv, tup6 P N' A' B Gx Gy t1 t2 t3 t4 t5 t6 c) ∈ news) (h : Q (.int Gy t6) s)
    (hs : subscripted slice false (.ref cv) (.int 5 u) = operate [.ref cv, .int 5 u] (getItem (.ref cv) (.int 5 u))) (hg : ∀ r, letTemporaryGo value (.ref cv) r = pure ()) :
    wpAny (model prog w) A (subscriptTail value slice (.ref cv) (.int 5 u)) Q E s := item_tuple (News.isTup N hm) (by decide) (by decide) (j := 5) rfl rfl h hs hg
end

section
variable {M : Model} {A : Around} {E : Value → Shared → Prop} {s : Shared} {h₀ : Heap} {L : Addr} {m : Str → Option Value} {news : Led}
theorem cutE {tree : Sem Flow} {Q : Flow → Shared → Prop} (_F : Fr h₀ L s.heap m) (_N : News h₀ L s.heap news) (a b : Str) (φ : Int → Int → Prop)
    (h : ∀ Q' : Flow → Shared → Prop, Pass → (∀ x tx y ty h' tk', Fr h₀ L h' (fun z => if z = a then some (.int x tx) else if z = b then some (.int y ty) else m z) → News h₀ L h' news → φ x y → Q' .next { s with heap := h', toks := tk' }) → wpAny M A tree Q' E s)
    (k : ∀ x tx y ty h' tk', Fr h₀ L h' (fun z => if z = a then some (.int x tx) else if z = b then some (.int y ty) else m z) → News h₀ L h' news → φ x y → Q .next { s with heap := h', toks := tk' }) : wpAny M A tree Q E s := h Q ⟨⟩ k
end
theorem fr2 {h₀ h : Heap} {L : Addr} {m : Str → Option Value} {a b : Str} {va vb : Value} (F : Fr h₀ L h m) (ha : m a = some va) (hb : m b = some vb) : Fr h₀ L h (fun z => if z = a then some va else if z = b then some vb else m z) := by
  rw [← map2 ha hb]; exact F
theorem fr3 {h₀ h : Heap} {L : Addr} {m m1 : Str → Option Value} {a b : Str} {va vb : Value} (F : Fr h₀ L h m1) (ha : m1 a = some va) (hb : m1 b = some vb) (hr : ∀ z, z ≠ a → z ≠ b → m1 z = m z) :
    Fr h₀ L h (fun z => if z = a then some va else if z = b then some vb else m z) := by
  have e : m1 = (fun z => if z = a then some va else if z = b then some vb else m z) := by
    funext z
    by_cases h1 : z = a
    · subst h1; simp [ha]
    · by_cases h2 : z = b
      · subst h2; simp [h1, hb]
      · simp only [if_neg h1, if_neg h2]; exact hr z h1 h2
  rw [← e]; exact F
theorem named_eq2 {N i x s0 : Int} {ma pa : Array UInt8} {C : Prop} (_h : i * (bval (KBw.bInts ma) + x * bval (KBw.bInts pa)) % N = s0)
    (h : ∀ i' x' ma' pa' s0', i' = i → x' = x → ma' = ma → pa' = pa → s0' = s0 → C) : C := h _ _ _ _ _ rfl rfl rfl rfl rfl
theorem named_eq3 {P N A Gx Gy x y k : Int} {C : Prop} (_h : (x, y) = pmul P N A Gx Gy k) (h : ∀ y', y' = y → C) : C := h _ rfl
theorem sg_lo {P N A B Gx Gy z d k x y y2 i s0 : Int} (K : CrvI P N A B Gx Gy) (hk : k % N ≠ 0) (hR : (x, y) = pmul P N A Gx Gy k) (hi : k ^ (N - 2).toNat % N = i) (hs : i * (z + x * d) % N = s0) (hy : y % 2 = y2) (h : ¬ N ≤ 2 * s0) :
    psign P N A Gx Gy z d k = (27 + y2, x, s0) := by
  subst hy
  rw [sign_law K hk hR hi hs, if_neg (by omega)]
theorem sg_hi {P N A B Gx Gy z d k x y y2 i s0 : Int} (K : CrvI P N A B Gx Gy) (hk : k % N ≠ 0) (hR : (x, y) = pmul P N A Gx Gy k) (hi : k ^ (N - 2).toNat % N = i) (hs : i * (z + x * d) % N = s0) (hy : y % 2 = y2) (h : N ≤ 2 * s0) :
    psign P N A Gx Gy z d k = (55 - (27 + y2), x, N - s0) := by
  subst hy
  rw [sign_law K hk hR hi hs, if_pos (by omega)]
theorem any_bnd {g j : Int} (h0 : 0 ≤ j) (h1 : j < 9) (h2 : 0 ≤ g) (h3 : g < 1000) : 0 ≤ ([27, 28, 27, 28, 26, 29, 0, 1, g] : List Int).getD j.toNat 0 ∧ ([27, 28, 27, 28, 26, 29, 0, 1, g] : List Int).getD j.toNat 0 < 2 ^ 20 := by
  have : j = 0 ∨ j = 1 ∨ j = 2 ∨ j = 3 ∨ j = 4 ∨ j = 5 ∨ j = 6 ∨ j = 7 ∨ j = 8 := by omega
  rcases this with rfl | rfl | rfl | rfl | rfl | rfl | rfl | rfl | rfl
  · exact ⟨(by decide : (0 : Int) ≤ 27), (by decide : (27 : Int) < 2 ^ 20)⟩
  · exact ⟨(by decide : (0 : Int) ≤ 28), (by decide : (28 : Int) < 2 ^ 20)⟩
  · exact ⟨(by decide : (0 : Int) ≤ 27), (by decide : (27 : Int) < 2 ^ 20)⟩
  · exact ⟨(by decide : (0 : Int) ≤ 28), (by decide : (28 : Int) < 2 ^ 20)⟩
  · exact ⟨(by decide : (0 : Int) ≤ 26), (by decide : (26 : Int) < 2 ^ 20)⟩
  · exact ⟨(by decide : (0 : Int) ≤ 29), (by decide : (29 : Int) < 2 ^ 20)⟩
  · exact ⟨(by decide : (0 : Int) ≤ 0), (by decide : (0 : Int) < 2 ^ 20)⟩
  · exact ⟨(by decide : (0 : Int) ≤ 1), (by decide : (1 : Int) < 2 ^ 20)⟩
  · show 0 ≤ g ∧ g < 2 ^ 20
    omega

/-- the names that are wanted, the rest forgotten; tokens by number -/
def bmapT (u : Str → Option Value) (ts : Nat → Tok) : Nat → List (Str × (Tok → Value)) → Str → Option Value
  | _, [] => u
  | i, q :: r => fun x => if x = q.1 then some (q.2 (ts i)) else bmapT u ts (i + 1) r x
def BT (m : Str → Option Value) : List (Str × (Tok → Value)) → Prop
  | [] => True
  | q :: r => (∃ t, m q.1 = some (q.2 t)) ∧ BT m r
theorem bmapT_of {m : Str → Option Value} : ∀ {ps : List (Str × (Tok → Value))}, BT m ps → ∀ i : Nat, ∃ ts : Nat → Tok, m = bmapT m ts i ps
  | [], _, _ => ⟨fun _ => 0, rfl⟩
  | q :: r, ⟨⟨t, h⟩, hr⟩, i => by
    obtain ⟨ts, e⟩ := bmapT_of hr (i + 1)
    have step : ∀ (ps : List (Str × (Tok → Value))) (u : Str → Option Value) (j : Nat) (ts ts' : Nat → Tok), (∀ k, j ≤ k → ts k = ts' k) → bmapT u ts j ps = bmapT u ts' j ps := by
      intro ps
      induction ps with
      | nil => intro _ _ _ _ _; rfl
      | cons a l ih =>
        intro u j ts ts' h
        funext x
        show (if x = a.1 then some (a.2 (ts j)) else bmapT u ts (j + 1) l x) = if x = a.1 then some (a.2 (ts' j)) else bmapT u ts' (j + 1) l x
        rw [h j (Nat.le_refl _), ih u (j + 1) ts ts' fun k hk => h k (by omega)]
    refine ⟨fun k => if k = i then t else ts k, ?_⟩
    funext x
    show m x = if x = q.1 then some (q.2 (if i = i then t else ts i)) else bmapT m (fun k => if k = i then t else ts k) (i + 1) r x
    by_cases hx : x = q.1
    · subst hx
      simp [h]
    · rw [if_neg hx, step r m (i + 1) (fun k => if k = i then t else ts k) ts (fun k hk => if_neg (by omega))]
      exact congrFun e x
theorem fr_slim {h₀ h : Heap} {L : Addr} {m : Str → Option Value} (F : Fr h₀ L h m) (ps : List (Str × (Tok → Value))) (hp : BT m ps) : ∃ u ts, Fr h₀ L h (bmapT u ts 0 ps) := by
  obtain ⟨ts, e⟩ := bmapT_of hp 0
  exact ⟨m, ts, e ▸ F⟩
theorem led_nil {led : Led} : ∀ p ∈ ([] : Led), p ∈ led := fun _ h => nomatch h
theorem led_cons {led news : Led} {q : Addr × Obj} (h : q ∈ led) (hs : ∀ p ∈ news, p ∈ led) : ∀ p ∈ q :: news, p ∈ led := List.forall_mem_cons.mpr ⟨h, hs⟩
theorem named_ref {h₀ h : Heap} {L : Addr} {m : Str → Option Value} (_F : Fr h₀ L h m) (a : Str) {d : Addr} (_h : m a = some (.ref d)) {P : Prop} (k : ∀ y, y = d → P) : P := k _ rfl

def Kept (P : Prop) : Prop := P
theorem Kept.of {P : Prop} (h : P) : Kept P := h
theorem Kept.out {P : Prop} (h : Kept P) : P := h
structure Pass2 : Prop
abbrev isRef (x : Value) : Prop := ∃ t, x = .str (Str.ofString "refused") t
section
variable {M : Model} {A : Around} {s : Shared} {h₀ : Heap} {L : Addr} {m : Str → Option Value} {news : Led}
/-- the law's body to its end: what comes back is True -/
theorem cutR {tree : Sem Flow} {Q : Flow → Shared → Prop} {E : Value → Shared → Prop} (_F : Fr h₀ L s.heap m) (_N : News h₀ L s.heap news)
    (h : ∀ (Q' : Flow → Shared → Prop) (E' : Value → Shared → Prop), (∀ b m' led h' tk', Fr h₀ L h' m' → News h₀ L h' led → b = true → Q' (.ret (.bool b)) { s with heap := h', toks := tk' }) → wpAny M A tree Q' E' s)
    (k : ∀ m' led h' tk', Fr h₀ L h' m' → News h₀ L h' led → Q (.ret (.bool true)) { s with heap := h', toks := tk' }) : wpAny M A tree Q E s :=
  h Q E fun b m' led h' tk' F N e => by subst e; exact k m' led h' tk' F N
/-- a test that comes out False -/
theorem cutF {tree : Sem Bool} {Q : Bool → Shared → Prop} {E : Value → Shared → Prop} (_F : Fr h₀ L s.heap m) (_N : News h₀ L s.heap news)
    (h : ∀ Q' : Bool → Shared → Prop, Pass → (∀ b h' tk', Fr h₀ L h' m → News h₀ L h' news → b = false → Q' b { s with heap := h', toks := tk' }) → wpAny M A tree Q' E s)
    (k : ∀ h' tk', Fr h₀ L h' m → News h₀ L h' news → Q false { s with heap := h', toks := tk' }) : wpAny M A tree Q E s := h Q ⟨⟩ fun b h' tk' F N e => by subst e; exact k h' tk' F N
/-- an expression's ways joined: its value is one of which φ holds -/
theorem cutV {tree : Sem Value} {Q E : Value → Shared → Prop} (_F : Fr h₀ L s.heap m) (_N : News h₀ L s.heap news) (φ : Value → Led → Prop)
    (h : ∀ Q' : Value → Shared → Prop, (∀ v nw h' tk', Fr h₀ L h' m → News h₀ L h' (nw ++ news) → φ v nw → Q' v { s with heap := h', toks := tk' }) → wpAny M A tree Q' E s)
    (k : ∀ v nw h' tk', Fr h₀ L h' m → News h₀ L h' (nw ++ news) → φ v nw → Q v { s with heap := h', toks := tk' }) : wpAny M A tree Q E s := h Q k
end
section
variable {prog : Program} {w : World} {A : Around} {E Q : Value → Shared → Prop} {s : Shared} {h₀ : Heap} {L : Addr} {led nw1 nw2 : Led} {a b : Option (Int × Int)} {r1 r2 : Value}
theorem ne_same (N : News h₀ L s.heap (nw2 ++ (nw1 ++ led))) (o1 : ResO isRef a r1 nw1) (o2 : ResO isRef b r2 nw2) (e : a = b) (hu : A.units < cLine)
    (h : Q (.bool false) s) : wpAny (model prog w) A (compareOp .NotEq r1 r2) Q E s := by
  subst e
  cases a with
  | none =>
    obtain ⟨⟨t1, rfl⟩, _⟩ := o1
    obtain ⟨⟨t2, rfl⟩, _⟩ := o2
    exact ne_str (by simpa using h)
  | some T =>
    obtain ⟨D1, X1, Y1, s1, s2, d1, e1, _, _, rfl, rfl⟩ := o1
    obtain ⟨D2, X2, Y2, s3, s4, d2, e2, _, _, rfl, rfl⟩ := o2
    refine ne_tup2 N (List.mem_append_right _ (List.mem_append_left _ List.mem_cons_self)) (List.mem_append_left _ List.mem_cons_self) hu ?_
    rw [show decide ((X1, Y1) ≠ (X2, Y2)) = false from decide_eq_false (fun q => q (e1.trans e2.symm))]
    exact h
theorem eq_same (N : News h₀ L s.heap (nw2 ++ (nw1 ++ led))) (o1 : ResO isRef a r1 nw1) (o2 : ResO isRef b r2 nw2) (e : a = b) (hu : A.units < cLine)
    (h : Q (.bool true) s) : wpAny (model prog w) A (compareOp .Eq r1 r2) Q E s := by
  subst e
  cases a with
  | none =>
    obtain ⟨⟨t1, rfl⟩, _⟩ := o1
    obtain ⟨⟨t2, rfl⟩, _⟩ := o2
    exact eq_str (by simpa using h)
  | some T =>
    obtain ⟨D1, X1, Y1, s1, s2, d1, e1, _, _, rfl, rfl⟩ := o1
    obtain ⟨D2, X2, Y2, s3, s4, d2, e2, _, _, rfl, rfl⟩ := o2
    refine eq_tup2 N (List.mem_append_right _ (List.mem_append_left _ List.mem_cons_self)) (List.mem_append_left _ List.mem_cons_self) hu ?_
    rw [show decide ((X1, Y1) = (X2, Y2)) = true from decide_eq_true (e1.trans e2.symm)]
    exact h
end
theorem len63 {vs : List Value} {ns : List Int} (_h : IntsAre vs ns) (h2 : ns.length ≤ 63) : ns.length ≤ 63 := h2
theorem at_any {w mean mg mb} {l : Addr} {vs : List Value} {ns : List Int} {t : Tok} {k : Int} {news : Led} (hI : Kept (IntsAre vs ns)) (hn : ns.length ≤ 63) (hk7 : 0 ≤ k ∧ k < 7) :
    CallLawP w mean mg mb 112 [.ref l, .int k t] news (fun h => h.IsList l vs.toArray) (fun r nw => ∃ y t, r = .int y t ∧ nw = []) := by
  intro cn cs a ccd h₀ L m s Q E B F X NN T hk hL hret
  refine at_ok hI hn hk7 cn cs a ccd h₀ L m s Q E B F X NN T hk hL fun r nw h' tk' F' N' o => hret r nw h' tk' F' N' ?_
  obtain ⟨t, e1, e2⟩ := o
  exact ⟨_, t, e1, e2⟩









theorem areCrv_get {led : Led} : ∀ {vs : List Value} {cs : List (Nat × Nat × Nat × Nat × Nat × Nat)}, AreCrv led vs cs → ∀ {i : Nat}, i < cs.length → ∃ v c, vs[i]? = some v ∧ c ∈ cs ∧ IsCrv led v c
  | _, _, .cons h _, 0, _ => ⟨_, _, rfl, .head _, h⟩
  | _, _, .cons _ t, i + 1, hi => by
    obtain ⟨v, c, h1, h2, h3⟩ := areCrv_get t (i := i) (Nat.lt_of_succ_lt_succ hi)
    exact ⟨v, c, h1, .tail _ h2, h3⟩
theorem curves_all : ∀ c ∈ curvesN, CrvI (c.1 : Int) (c.2.1 : Int) (c.2.2.1 : Int) (c.2.2.2.1 : Int) (c.2.2.2.2.1 : Int) (c.2.2.2.2.2 : Int) := by
  intro c hc
  refine crvI_of ?_ ?_
  · unfold curvesN at hc
    simp only [List.mem_cons, List.not_mem_nil, or_false] at hc
    rcases hc with rfl | rfl | rfl | rfl | rfl | rfl | rfl | rfl | rfl | rfl | rfl | rfl | rfl | rfl | rfl | rfl | rfl | rfl | rfl | rfl | rfl
    · exact crvOK_0
    · exact crvOK_1
    · exact crvOK_2
    · exact crvOK_3
    · exact crvOK_4
    · exact crvOK_5
    · exact crvOK_6
    · exact crvOK_7
    · exact crvOK_8
    · exact crvOK_9
    · exact crvOK_10
    · exact crvOK_11
    · exact crvOK_12
    · exact crvOK_13
    · exact crvOK_14
    · exact crvOK_15
    · exact crvOK_16
    · exact crvOK_17
    · exact crvOK_18
    · exact crvOK_19
    · exact crvOK_20
  · exact (by decide : ∀ c ∈ curvesN, 2 < c.1 ∧ c.1 < 2 ^ 20 ∧ c.2.2.1 < 2 ^ 20 ∧ c.2.2.2.1 < 2 ^ 20 ∧ c.2.2.2.2.1 < 2 ^ 20 ∧ c.2.2.2.2.2 < 2 ^ 20 ∧ 2 < c.2.1 ∧ c.2.1 < 2 ^ 20) c hc
theorem pick_crv {led : Led} {vs : List Value} (h : AreCrv led vs curvesN) {i : Int} (h0 : 0 ≤ i) (h1 : i < 21) :
    ∃ d P N A B Gx Gy u1 u2 u3 u4 u5 u6 n, vs[i.toNat]? = some (.ref d) ∧ (d, tup6 P N A B Gx Gy u1 u2 u3 u4 u5 u6 n) ∈ led ∧ CrvI P N A B Gx Gy := by
  obtain ⟨v, c, e1, hc, d, u1, u2, u3, u4, u5, u6, n, e2, hm⟩ := areCrv_get h (i := i.toNat) (by show i.toNat < 21; omega)
  exact ⟨d, _, _, _, _, _, _, u1, u2, u3, u4, u5, u6, n, e2 ▸ e1, hm, curves_all c hc⟩
theorem timesG_ok {w mean mg mb} {cv d : Addr} {P N A B Gx Gy n : Int} {tn t1 t2 u1 u2 u3 u4 u5 u6 : Tok} {c c' : Nat} {news : Led} (K : CrvI P N A B Gx Gy)
   (hq : (d, tup2 Gx Gy t1 t2 c) ∈ news) (hc : (cv, tup6 P N A B Gx Gy u1 u2 u3 u4 u5 u6 c') ∈ news) (hk : n % N ≠ 0) :
   CallOk w mean mg mb 126 4 [.ref cv, .ref d, .int n tn] news (Res2 (pmul P N A Gx Gy n)) := by
  have b := K.bnd
  refine (times_ok (ptIs_mk hq b.2.1.1 b.2.1.2) hc ⟨⟨b.1.1, b.1.2.1, b.1.2.2.1⟩, by omega, b.2.2.2⟩).mono fun r nw h => ?_
  rw [ltI_some K hk] at h
  exact h








theorem law1 : PySem.Challenge.rw_iv0042_01.Holds := hd (by
  k_with_none
  k_with "binaryOp Mod int int" => (k_here; refine' modN (by first | decide | assumption | omega) ?_; k_whole; intro wmr wmt9 wmk9 wme wml wmu)
  k_with "binaryOp FloorDiv int int" => (k_here; refine' divN (by first | decide | assumption | omega) (by first | decide | omega) ?_; k_whole; intro wmr wmt9 wmk9 wme)
  k_with "binaryOp Mult int int" => (k_here; refine' mulT (by first | exact okL (by decide) (by decide) | exact okR (by decide) (by decide) | exact okLs (by assumption) (by assumption) | exact okRs (by assumption) (by assumption) | exact okLP (by assumption) (by assumption) (by assumption) | exact okRP (by assumption) (by assumption) (by assumption) | exact okL (by omega) (by omega) | exact okR (by omega) (by omega)) ?_; k_whole; intro wmt9 wmk9)
  k_with "binaryOp Pow int int" => (k_here; (first | refine' pow2 (by omega) (by omega) ?_ | refine' pow3 (by omega) (by omega) ?_ | refine' pow4 (by omega) (by omega) ?_); k_whole; intro wmt9 wmk9)
  k_with "binaryOp Add int int" => (k_here; refine' addT ?_; k_whole; intro wmt9 wmk9)
  k_with "binaryOp Sub int int" => (k_here; refine' subT ?_; k_whole; intro wmt9 wmk9)
  k_with "binaryOp BitXor int int" => (k_here; (first | refine' xor0 (by omega) (by omega) ?_ | refine' xor1 (by omega) (by omega) ?_ | refine' xorB (by omega) (by omega) (by omega) (by omega) ?_); k_whole; intro wxb wxt9 wxk9 wxe wxl wxu)
  k_with "call builtin:pow" => (k_here; refine' powN3 (by omega) (by omega) ?_; k_whole; intro wpr wpt9 wpk9 wpe wpl wpu)
  k_with "subscriptTail" => (k_here; (with_reducible show wpAny _ _ (subscriptTail _ _ (Value.ref _) (Value.int _ _)) _ _ _); (first | (with_reducible refine' item6_0 (by assumption) (by k_mem) ?_ (by with_unfolding_all rfl) (by (intro _; with_unfolding_all rfl)); k_whole) | (with_reducible refine' item6_1 (by assumption) (by k_mem) ?_ (by with_unfolding_all rfl) (by (intro _; with_unfolding_all rfl)); k_whole) | (with_reducible refine' item6_2 (by assumption) (by k_mem) ?_ (by with_unfolding_all rfl) (by (intro _; with_unfolding_all rfl)); k_whole) | (with_reducible refine' item6_3 (by assumption) (by k_mem) ?_ (by with_unfolding_all rfl) (by (intro _; with_unfolding_all rfl)); k_whole) | (with_reducible refine' item6_4 (by assumption) (by k_mem) ?_ (by with_unfolding_all rfl) (by (intro _; with_unfolding_all rfl)); k_whole) | (with_reducible refine' item6_5 (by assumption) (by k_mem) ?_ (by with_unfolding_all rfl) (by (intro _; with_unfolding_all rfl)); k_whole)))
  k_with "subscriptTail Name" => (k_here; (with_reducible show wpAny _ _ (subscriptTail _ _ (Value.ref _) (Value.int _ _)) _ _ _); (first | (with_reducible refine' item6_0 (by assumption) (by k_mem) ?_ (by with_unfolding_all rfl) (by (intro _; with_unfolding_all rfl)); k_whole) | (with_reducible refine' item6_1 (by assumption) (by k_mem) ?_ (by with_unfolding_all rfl) (by (intro _; with_unfolding_all rfl)); k_whole) | (with_reducible refine' item6_2 (by assumption) (by k_mem) ?_ (by with_unfolding_all rfl) (by (intro _; with_unfolding_all rfl)); k_whole) | (with_reducible refine' item6_3 (by assumption) (by k_mem) ?_ (by with_unfolding_all rfl) (by (intro _; with_unfolding_all rfl)); k_whole) | (with_reducible refine' item6_4 (by assumption) (by k_mem) ?_ (by with_unfolding_all rfl) (by (intro _; with_unfolding_all rfl)); k_whole) | (with_reducible refine' item6_5 (by assumption) (by k_mem) ?_ (by with_unfolding_all rfl) (by (intro _; with_unfolding_all rfl)); k_whole)))
  k_with "subscriptTail Name Constant" => (k_here; (with_reducible show wpAny _ _ (subscriptTail _ _ (Value.ref _) (Value.int _ _)) _ _ _); (first | (with_reducible refine' item6_0 (by assumption) (by k_mem) ?_ (by with_unfolding_all rfl) (by (intro _; with_unfolding_all rfl)); k_whole) | (with_reducible refine' item6_1 (by assumption) (by k_mem) ?_ (by with_unfolding_all rfl) (by (intro _; with_unfolding_all rfl)); k_whole) | (with_reducible refine' item6_2 (by assumption) (by k_mem) ?_ (by with_unfolding_all rfl) (by (intro _; with_unfolding_all rfl)); k_whole) | (with_reducible refine' item6_3 (by assumption) (by k_mem) ?_ (by with_unfolding_all rfl) (by (intro _; with_unfolding_all rfl)); k_whole) | (with_reducible refine' item6_4 (by assumption) (by k_mem) ?_ (by with_unfolding_all rfl) (by (intro _; with_unfolding_all rfl)); k_whole) | (with_reducible refine' item6_5 (by assumption) (by k_mem) ?_ (by with_unfolding_all rfl) (by (intro _; with_unfolding_all rfl)); k_whole)))
  k_with "subscriptTail Name Constant ref int" => (k_here; (with_reducible show wpAny _ _ (subscriptTail _ _ (Value.ref _) (Value.int _ _)) _ _ _); (first | (with_reducible refine' item6_0 (by assumption) (by k_mem) ?_ (by with_unfolding_all rfl) (by (intro _; with_unfolding_all rfl)); k_whole) | (with_reducible refine' item6_1 (by assumption) (by k_mem) ?_ (by with_unfolding_all rfl) (by (intro _; with_unfolding_all rfl)); k_whole) | (with_reducible refine' item6_2 (by assumption) (by k_mem) ?_ (by with_unfolding_all rfl) (by (intro _; with_unfolding_all rfl)); k_whole) | (with_reducible refine' item6_3 (by assumption) (by k_mem) ?_ (by with_unfolding_all rfl) (by (intro _; with_unfolding_all rfl)); k_whole) | (with_reducible refine' item6_4 (by assumption) (by k_mem) ?_ (by with_unfolding_all rfl) (by (intro _; with_unfolding_all rfl)); k_whole) | (with_reducible refine' item6_5 (by assumption) (by k_mem) ?_ (by with_unfolding_all rfl) (by (intro _; with_unfolding_all rfl)); k_whole)))
  k_with "call ref" => (k_here; (with_reducible show wpAny _ _ (call (Value.ref 35) _) _ _ _); k_dflt (refine' callOk_use (by k_asm) (by k_asm) (by k_asm) (by k_asm) (by k_asm) (by first | exact rfl | assumption) (inv_ok (by ((repeat' (first | assumption | with_reducible apply And.intro)); all_goals omega))) (by ktr_room) (by ktr_units) ?_; rintro wr9 wnw9 wh9 wtk9 wF9 wN9 ⟨wy9, wt9, we9, ⟨wy9l, wy9u⟩, we91, we92⟩; subst we91; subst we92; (try simp only [List.cons_append, List.nil_append] at wN9); (try k_sweep); (try dsimp only); (try k_fold)))
  k_with "call ref" => (k_here; (with_reducible show wpAny _ _ (call (Value.ref 28) _) _ _ _); k_dflt (refine' callOk_use (by k_asm) (by k_asm) (by k_asm) (by k_asm) (by k_asm) (by first | exact rfl | assumption) (bytes_ok (by first | assumption | omega)) (by ktr_room) (by ktr_units) ?_; rintro wr9 wnw9 wh9 wtk9 wF9 wN9 ⟨wt9, we91, we92⟩; subst we91; subst we92; (try simp only [List.cons_append, List.nil_append] at wN9); (try k_sweep); (try dsimp only); (try k_fold)))
  k_with "call ref" => (k_here; (with_reducible show wpAny _ _ (call (Value.ref 119) _) _ _ _); k_dflt (refine' callOk_use (by k_asm) (by k_asm) (by k_asm) (by k_asm) (by k_asm) (by first | exact rfl | assumption) (lsumV_ok (by first | assumption | exact PtIs.up (by assumption) (by kcj_all)) (by first | assumption | exact PtIs.up (by assumption) (by kcj_all)) (by k_mem) (by ((repeat' (first | assumption | with_reducible apply And.intro)); all_goals omega))) (by ktr_room) (by ktr_units) ?_; intro wr9 wnw9 wh9 wtk9 wF9 wN9 wo9; (have pt9 := ptIs_N wN9 wo9); (try k_sweep); (try dsimp only); (try k_fold)))
  k_with "call ref" => (k_here; (with_reducible show wpAny _ _ (call (Value.ref 126) _) _ _ _); k_dflt (refine' callOk_use (by k_asm) (by k_asm) (by k_asm) (by k_asm) (by k_asm) (by first | exact rfl | assumption) (times_ok (by (first | assumption | exact PtIs.up (by assumption) (by kcj_all) | exact ptIs_mk (by k_mem) (by omega) (by omega) | exact rfl)) (by k_mem) (by ((repeat' (first | assumption | with_reducible apply And.intro)); all_goals omega))) (by ktr_room) (by ktr_units) ?_; intro wr9 wnw9 wh9 wtk9 wF9 wN9 wo9; (have pt9 := ptIs_N wN9 wo9); (try k_sweep); (try dsimp only); (try k_fold)))
  k_with "call ref" => (k_here; (with_reducible show wpAny _ _ (call (Value.ref 133) _) _ _ _); k_dflt (refine' callOk_use (by k_asm) (by k_asm) (by k_asm) (by k_asm) (by k_asm) (by first | exact rfl | assumption) (flat_ok (by (first | assumption | exact PtIs.up (by assumption) (by kcj_all) | exact ptIs_mk (by k_mem) (by omega) (by omega) | exact rfl))) (by ktr_room) (by ktr_units) ?_; rintro wr9 wnw9 wh9 wtk9 wF9 wN9 ⟨wD9, wX9, wY9, ws91, ws92, wd9, we9, ⟨wX9l, wX9u⟩, ⟨wY9l, wY9u⟩, we91, we92⟩; subst we91; subst we92; (try simp only [List.cons_append, List.nil_append] at wN9); (try k_sweep); (try dsimp only); (try k_fold)))
  k_with "call ref" => (k_here; (with_reducible show wpAny _ _ (call (Value.ref 112) _) _ _ _); k_dflt (refine' callLawP_use (by k_asm) (by k_asm) (by k_asm) (by k_asm) (by k_asm) (by first | exact rfl | assumption) (at_any (by assumption) (by assumption) (by decide)) (by ((try dsimp only); assumption)) ?_; rintro wr9 wnw9 wh9 wtk9 wF9 wN9 ⟨wy9, wt9, we91, we92⟩; subst we91; subst we92; (try simp only [List.cons_append, List.nil_append] at wN9); (try k_sweep); (try dsimp only); (try k_fold)))
  k_with "call ref" => (k_here; (with_reducible show wpAny _ _ (call (Value.ref 105) _) _ _ _); k_dflt (refine' callLawP_use (by k_asm) (by k_asm) (by k_asm) (by k_asm) (by k_asm) (by first | exact rfl | assumption) curves_ok (by exact True.intro) ?_; rintro wr9 wnw9 wh9 wtk9 wF9 wN9 ⟨wl9, wvs9, wn9, we91, whl9, whc9⟩; subst we91; (try simp only [List.append_nil] at wN9); (try dsimp only); (try k_fold)))
  k_with "call ref" => (k_here; (with_reducible show wpAny _ _ (call (Value.ref 140) _) _ _ _); k_dflt (refine' callOk_use (by k_asm) (by k_asm) (by k_asm) (by k_asm) (by k_asm) (by first | exact rfl | assumption) oct_ok (by ktr_room) (by ktr_units) ?_; rintro wr9 wnw9 wh9 wtk9 wF9 wN9 ⟨war9, wt9, we91, we92, whb9⟩; subst we91; subst we92; (try simp only [List.cons_append, List.nil_append] at wN9); (try k_sweep); (try dsimp only); (try k_fold)))
  k_with "call ref" => (k_here; (with_reducible show wpAny _ _ (call (Value.ref 147) _) _ _ _); k_dflt (refine' callOk_use (by k_asm) (by k_asm) (by k_asm) (by k_asm) (by k_asm) (by first | exact rfl | assumption) (value_ok (by assumption)) (by ktr_room) (by ktr_units) ?_; rintro wr9 wnw9 wh9 wtk9 wF9 wN9 ⟨wt9, we91, we92⟩; subst we91; subst we92; (try simp only [List.cons_append, List.nil_append] at wN9); (try k_sweep); (try dsimp only); (try k_fold)))
  k_with "call ref" => (k_here; (with_reducible show wpAny _ _ (call (Value.ref 126) _) _ _ _); k_dflt (refine' callOk_use (by k_asm) (by k_asm) (by k_asm) (by k_asm) (by k_asm) (by first | exact rfl | assumption) (timesG_ok (by assumption) (by k_mem) (by k_mem) (by exact kmod (by omega) (by omega))) (by ktr_room) (by ktr_units) ?_; rintro wr9 wnw9 wh9 wtk9 wF9 wN9 ⟨wD9, wX9, wY9, ws91, ws92, wd9, we9, ⟨wX9l, wX9u⟩, ⟨wY9l, wY9u⟩, we91, we92⟩; subst we91; subst we92; (try simp only [List.cons_append, List.nil_append] at wN9); (try k_sweep); (try dsimp only); (try k_fold)))
  k_with "call ref" => (k_here; (with_reducible show wpAny _ _ (call (Value.ref 91) _) _ _ _); k_dflt (refine' callOk_use (by k_asm) (by k_asm) (by k_asm) (by k_asm) (by k_asm) (by first | exact rfl | assumption) (sign_ok (by k_mem) (by ((repeat' (first | assumption | with_reducible apply And.intro)); all_goals omega))) (by ktr_room) (by ktr_units) ?_; rintro wr9 wnw9 wh9 wtk9 wF9 wN9 ⟨wD9, wX9, wY9, wZ9, ws91, ws92, ws93, wd9, we9, ⟨wX9l, wX9u⟩, ⟨wY9l, wY9u⟩, ⟨wZ9l, wZ9u⟩, we91, we92⟩; subst we91; subst we92; (try simp only [List.cons_append, List.nil_append] at wN9); (try k_sweep); (try dsimp only); (try k_fold)))
  k_with "call ref" => (k_here; (with_reducible show wpAny _ _ (call (Value.ref 84) _) _ _ _); k_dflt (refine' callOk_use (by k_asm) (by k_asm) (by k_asm) (by k_asm) (by k_asm) (by first | exact rfl | assumption) (pub_ok (by k_mem) (by ((repeat' (first | assumption | with_reducible apply And.intro)); all_goals omega))) (by ktr_room) (by ktr_units) ?_; rintro wr9 wnw9 wh9 wtk9 wF9 wN9 ⟨wD9, wX9, wY9, ws91, ws92, wd9, we9, ⟨wX9l, wX9u⟩, ⟨wY9l, wY9u⟩, we91, we92⟩; subst we91; subst we92; (try simp only [List.cons_append, List.nil_append] at wN9); (try k_sweep); (try dsimp only); (try k_fold)))
  k_with "call ref" => (k_here; (with_reducible show wpAny _ _ (call (Value.ref 161) _) _ _ _); k_dflt (refine' callLawP_use (by k_asm) (by k_asm) (by k_asm) (by k_asm) (by k_asm) (by first | exact rfl | assumption) (told_ok (by k_mem) (by k_mem) (by ((repeat' (first | assumption | with_reducible apply And.intro)); all_goals omega))) (by exact True.intro) ?_; intro wr9 wnw9 wh9 wtk9 wF9 wN9 wo9; (try simp only [List.cons_append, List.nil_append] at wN9); (try k_sweep); (try dsimp only); (try k_fold)))
  k_with "call ref" => (k_here; (with_reducible show wpAny _ _ (call (Value.ref 154) _) _ _ _); k_dflt (refine' callOk_use (by k_asm) (by k_asm) (by k_asm) (by k_asm) (by k_asm) (by first | exact rfl | assumption) (lrecd_ok (by k_mem) (by ((repeat' (first | assumption | with_reducible apply And.intro)); all_goals omega))) (by ktr_room) (by ktr_units) ?_; intro wr9 wnw9 wh9 wtk9 wF9 wN9 wo9; (try simp only [List.cons_append, List.nil_append] at wN9); (try k_sweep); (try dsimp only); (try k_fold)))
  k_with "subscriptTail Call Name nil nil" => (k_here; (fail_if_success (have pass9 : Pass := by assumption)); refine Hold.of ?_)
  k_with "subscriptTail" => (k_here; (with_reducible show wpAny _ _ (subscriptTail (Expr.Call _ _ _ _) _ _ _) _ _ _); (fail_if_success (have pass9 : Pass := by assumption)); refine Hold.of ?_)
  k_with "isTrue BoolOp" => (k_here; (with_reducible show wpAny _ _ (isTrue (Expr.BoolOp BoolOp.Or _ _) _ _) _ _ _); (fail_if_success (have pass9 : Pass := by assumption)); refine Hold.of ?_)
  k_with "isTrue Compare" => (k_here; (with_reducible show wpAny _ _ (isTrue (Expr.Compare _ [CmpOp.NotEq] _ _) _ _) _ _ _); (fail_if_success (have pass9 : Pass := by assumption)); refine Hold.of ?_)
  k_with "exec If" => (k_here; (with_reducible show wpAny _ _ (exec (Stmt.If (Expr.Compare _ [CmpOp.GtE] _ _) _ _ _) _) _ _ _); (fail_if_success (have pass9 : Pass := by assumption)); refine Hold.of ?_)
  k_with "compareOp NotEq ref ref" => (k_here; k_dflt (first | (refine' ne_tup3 (by assumption) (by k_mem) (by k_mem) (by ktr_units) ?_; k_whole) | (refine' ne_tup2 (by assumption) (by k_mem) (by k_mem) (by ktr_units) ?_; k_whole)))
  k_with "eval IfExp" => (k_here; (fail_if_success (fail_if_success (have pass8 : Pass2 := by assumption))); refine Hold.of ?_)
  k_with "compareOp NotEq" => (k_here; k_dflt (with_reducible refine' ne_same (by assumption) (by assumption) (by assumption) (by with_reducible first | assumption | exact Eq.refl _) (by ktr_units) ?_; k_whole))
  k_with "compareOp Eq" => (k_here; k_dflt (with_reducible refine' eq_same (by assumption) (by assumption) (by assumption) (by with_reducible first | assumption | exact Eq.refl _) (by ktr_units) ?_; k_whole))
  w_strict (
    k_go0
    (all_goals try k_fold)
    refine' cutR ?zF0 ?zN0 ?zH0 ?zK0
    case zF0 => assumption
    case zN0 => assumption
    case zK0 =>
      intro m9 led9 h9 tk9 F9 N9
      k_steps
    intro Q0 E0 hret0
    rename IntsAre _ _ => hI63
    have hn63 := len63 hI63 (by omega)
    replace hI63 := Kept.of hI63
    k_steps
    unfold Hold
    rename AreCrv _ _ _ => hc9
    rename (_, W.listOf _ _) ∈ _ => hl9
    rename News _ _ _ _ => lN
    rename Fr _ _ _ _ => lF
    rename _ % 21 = _ => e21
    obtain ⟨cv, P, N, A, B, Gx, Gy, u1, u2, u3, u4, u5, u6, n6, ev, hm, K⟩ := pick_crv hc9 (by assumption) (by assumption)
    with_unfolding_all refine' item_litK (News.isList lN hl9) ?i0 ?i1 ev ?_ ?i2
    case i0 => assumption
    case i1 => omega
    case i2 => with_unfolding_all rfl
    have N1 := news_sub lN (news := [(cv, tup6 P N A B Gx Gy u1 u2 u3 u4 u5 u6 n6)]) (fun p hp => by rw [List.mem_singleton.mp hp]; exact hm)
    clear lN hl9 hc9 ev hm e21
    obtain ⟨⟨hP0, ⟨hP1, hP2⟩, ⟨hA1, hA2⟩, hB1, hB2⟩, ⟨⟨hx1, hx2⟩, hy1, hy2⟩, hN1, hN2⟩ := K.bnd
    (try dsimp only)
    (try k_fold)
    k_steps
    unfold Hold
    rename Fr _ _ _ _ => lF
    rename News _ _ _ _ => lN
    obtain ⟨u91, ts91, F91⟩ := fr_slim lF [(Str.ofString "script", Function.const Tok (Value.ref _)), (Str.ofString "curve", Function.const Tok (Value.ref _)), (Str.ofString "p", Value.int _), (Str.ofString "size", Value.int _), (Str.ofString "octets", Value.bytes _), (Str.ofString "key", Value.bytes _), (Str.ofString "k", Value.int _), (Str.ofString "z", Value.int _), (Str.ofString "d", Value.int _)] ⟨⟨0, rfl⟩, ⟨0, rfl⟩, ⟨_, rfl⟩, ⟨_, rfl⟩, ⟨_, rfl⟩, ⟨_, rfl⟩, ⟨_, rfl⟩, ⟨_, rfl⟩, ⟨_, rfl⟩, trivial⟩
    dsimp only [bmapT, Function.const] at F91
    have N91 := news_sub lN (led_cons (q := (cv, tup6 P N A B Gx Gy u1 u2 u3 u4 u5 u6 n6)) (by k_mem) led_nil)
    clear lF lN
    refine' cutF ?zF1 ?zN1 ?zH1 ?zK1
    case zF1 => assumption
    case zN1 => assumption
    case zH1 =>
      intro Q9 pass hq
      k_steps
      all_goals (refine hq _ _ _ (by assumption) (news_sub (by assumption) (by kcj_all)) ?_; simp)
    case zK1 =>
      intro h9 tk9 F9 N9
      (try k_sweep)
      (try dsimp only)
      (try k_fold)
      k_steps
      unfold Hold
      rename _ % (N - 1) = _ => xek
      refine named_eq xek ?_
      intro q0 eq0
      subst eq0
      rename _ * (bval _ + _ * bval _) % N = _ => xes
      refine named_eq2 xes ?_
      intro i0 x0 ma pa s0 e1 e2 e3 e4 e5
      subst e1 e2 e3 e4 e5
      rename (_, _) = pmul P N A Gx Gy _ => xeR
      refine named_eq3 xeR ?_
      intro y0 ey0
      subst ey0
      rename _ ^ _ % N = _ => xei
      rename y0 % 2 = _ => xey
      refine named_eq xey ?_
      intro y2 ey2
      subst ey2
      have hk0 : (1 + q0) % N ≠ 0 := kmod (by omega) (by omega)
      rename Fr _ _ _ _ => lF
      rename News _ _ _ _ => lN
      obtain ⟨u92, ts92, F92⟩ := fr_slim lF [(Str.ofString "script", Function.const Tok (Value.ref _)), (Str.ofString "curve", Function.const Tok (Value.ref _)), (Str.ofString "p", Value.int _), (Str.ofString "size", Value.int _), (Str.ofString "octets", Value.bytes _), (Str.ofString "key", Value.bytes _), (Str.ofString "k", Value.int _), (Str.ofString "z", Value.int _), (Str.ofString "d", Value.int _), (Str.ofString "x", Value.int _), (Str.ofString "s", Value.int _), (Str.ofString "v", Value.int _)] ⟨⟨0, rfl⟩, ⟨0, rfl⟩, ⟨_, rfl⟩, ⟨_, rfl⟩, ⟨_, rfl⟩, ⟨_, rfl⟩, ⟨_, rfl⟩, ⟨_, rfl⟩, ⟨_, rfl⟩, ⟨_, rfl⟩, ⟨_, rfl⟩, ⟨_, rfl⟩, trivial⟩
      dsimp only [bmapT, Function.const] at F92
      have N92 := news_sub lN (led_cons (q := (cv, tup6 P N A B Gx Gy u1 u2 u3 u4 u5 u6 n6)) (by k_mem) led_nil)
      clear lF lN
      refine' cutE ?zF2 ?zN2 (Str.ofString "v") (Str.ofString "s") (fun v1 s1 => psign P N A Gx Gy (bval (KBw.bInts ma)) (bval (KBw.bInts pa)) (1 + q0) = (v1, x0, s1) ∧ ((v1 = 27 + y2 ∧ s1 = s0) ∨ (v1 = 55 - (27 + y2) ∧ s1 = N - s0)) ∧ Sm v1 ∧ Sm s1) ?zH2 ?zK2
      case zF2 => assumption
      case zN2 => assumption
      case zH2 =>
        intro Q9 pass hq
        k_steps
        · rename Fr _ _ _ _ => lF
          refine hq _ _ _ _ _ _ (fr3 lF rfl rfl (fun z h1 h2 => by simp only [if_neg h1, if_neg h2])) (news_sub (by assumption) (by kcj_all)) ⟨sg_hi K hk0 xeR xei xes xey (by assumption), .inr ⟨rfl, rfl⟩, by omega, by omega⟩
        · rename Fr _ _ _ _ => lF
          refine hq _ _ _ _ _ _ (fr2 lF rfl rfl) (news_sub (by assumption) (by kcj_all)) ⟨sg_lo K hk0 xeR xei xes xey (by assumption), .inl ⟨rfl, rfl⟩, by omega, by omega⟩
      case zK2 =>
        rintro v1 tv1 s1 ts1 h8 tk8 F8 N8 ⟨hsg, hvs, ⟨hv1, hv2⟩, hs1, hs2⟩
        (try k_sweep)
        (try dsimp only)
        (try k_fold)
        k_steps
        unfold Hold
        rename (_, _, _) = psign _ _ _ _ _ _ _ _ => xe3
        rename (_, _) = flatI _ => xef
        rw [ltI_G K] at xef
        have xe4 := xe3.trans hsg
        injection xe4 with xe5 xe6
        injection xe6 with xe7 xe8
        replace xe5 := xe5.symm
        replace xe7 := xe7.symm
        replace xe8 := xe8.symm
        subst xe5 xe7 xe8
        rename Fr _ _ _ _ => lF
        rename News _ _ _ _ => lN
        refine named_ref lF (Str.ofString "point") rfl ?_
        intro dpt e9dpt
        subst e9dpt
        refine named_ref lF (Str.ofString "three") rfl ?_
        intro dth e9dth
        subst e9dth
        rename Fr _ _ _ _ => lF
        rename News _ _ _ _ => lN
        obtain ⟨u93, ts93, F93⟩ := fr_slim lF [(Str.ofString "script", Function.const Tok (Value.ref _)), (Str.ofString "curve", Function.const Tok (Value.ref _)), (Str.ofString "p", Value.int _), (Str.ofString "size", Value.int _), (Str.ofString "octets", Value.bytes _), (Str.ofString "key", Value.bytes _), (Str.ofString "z", Value.int _), (Str.ofString "x", Value.int _), (Str.ofString "s", Value.int _), (Str.ofString "v", Value.int _), (Str.ofString "point", Function.const Tok (Value.ref _)), (Str.ofString "three", Function.const Tok (Value.ref _))] ⟨⟨0, rfl⟩, ⟨0, rfl⟩, ⟨_, rfl⟩, ⟨_, rfl⟩, ⟨_, rfl⟩, ⟨_, rfl⟩, ⟨_, rfl⟩, ⟨_, rfl⟩, ⟨_, rfl⟩, ⟨_, rfl⟩, ⟨0, rfl⟩, ⟨0, rfl⟩, trivial⟩
        dsimp only [bmapT, Function.const] at F93
        have N93 := news_sub lN (led_cons (q := (dth, tup3 v1 x0 s1 _ _ _ _)) (by k_mem) (led_cons (q := (dpt, tup2 _ _ _ _ _)) (by k_mem) (led_cons (q := (cv, tup6 P N A B Gx Gy u1 u2 u3 u4 u5 u6 n6)) (by k_mem) led_nil)))
        clear lF lN
        refine' cutF ?zF3 ?zN3 ?zH3 ?zK3
        case zF3 => assumption
        case zN3 => assumption
        case zH3 =>
          intro Q9 pass hq
          k_steps
          all_goals (refine hq _ _ _ (by assumption) (news_sub (by assumption) (by kcj_all)) ?_)
          · exact absurd rfl (by assumption)
          · rename (_, _) ≠ (_, _) => xn
            refine absurd (Eq.trans ?_ xef.symm) xn
            assumption
          · simp
        case zK3 =>
          intro h9 tk9 F9 N9
          (try k_sweep)
          (try dsimp only)
          (try k_fold)
          k_steps
          unfold Hold
          rw [← xey] at hvs
          have hpre := rec_law K hk0 xeR xei xes hvs
          rename Fr _ _ _ _ => lF
          rename News _ _ _ _ => lN
          obtain ⟨u94, ts94, F94⟩ := fr_slim lF [(Str.ofString "script", Function.const Tok (Value.ref _)), (Str.ofString "curve", Function.const Tok (Value.ref _)), (Str.ofString "p", Value.int _), (Str.ofString "size", Value.int _), (Str.ofString "octets", Value.bytes _), (Str.ofString "z", Value.int _), (Str.ofString "x", Value.int _), (Str.ofString "s", Value.int _), (Str.ofString "v", Value.int _), (Str.ofString "point", Function.const Tok (Value.ref _)), (Str.ofString "three", Function.const Tok (Value.ref _))] ⟨⟨0, rfl⟩, ⟨0, rfl⟩, ⟨_, rfl⟩, ⟨_, rfl⟩, ⟨_, rfl⟩, ⟨_, rfl⟩, ⟨_, rfl⟩, ⟨_, rfl⟩, ⟨_, rfl⟩, ⟨0, rfl⟩, ⟨0, rfl⟩, trivial⟩
          dsimp only [bmapT, Function.const] at F94
          have N94 := news_sub lN (led_cons (q := (dth, tup3 v1 x0 s1 _ _ _ _)) (by k_mem) (led_cons (q := (dpt, tup2 _ _ _ _ _)) (by k_mem) (led_cons (q := (cv, tup6 P N A B Gx Gy u1 u2 u3 u4 u5 u6 n6)) (by k_mem) led_nil)))
          clear lF lN
          refine' cutB ?zF4 ?zN4 False ?zH4 ?zK4
          case zF4 => assumption
          case zN4 => assumption
          case zH4 =>
            intro Q9 pass hq
            have pass2 : Pass2 := ⟨⟩
            k_steps
            unfold Hold
            clear pass2
            rename Fr _ _ _ _ => lF
            rename News _ _ _ _ => lN
            refine' cutV lF lN (fun v nw => ResO isRef (precover P N A B Gx Gy (bval (KBw.bInts ma)) v1 x0 s1) v nw) ?zH6 ?zK6
            case zH6 =>
              clear hq
              intro Q8 hq8
              dsimp only at hq8
              rw [hpre] at hq8
              k_steps
              · refine hq8 _ [] _ _ (by assumption) (by assumption) ?_
                rw [if_pos (by omega)]
                exact ⟨⟨_, rfl⟩, rfl⟩
              · refine hq8 _ [] _ _ (by assumption) (by assumption) ?_
                rw [if_pos (by omega)]
                exact ⟨⟨_, rfl⟩, rfl⟩
              · refine hq8 _ [(dpt, tup2 _ _ _ _ _)] _ _ lF (news_add lN (fun _ h => h) (List.mem_append_right _ (List.mem_cons_of_mem _ List.mem_cons_self))) ?_
                rename x0 % N = _ => xh1
                rename s1 % N = _ => xh2
                subst xh1 xh2
                rw [if_neg (not_or.mpr ⟨by assumption, by assumption⟩)]
                exact ⟨_, _, _, _, _, _, xef, ⟨by assumption, by assumption⟩, ⟨by assumption, by assumption⟩, rfl, rfl⟩
            case zK6 =>
              intro v8 nw8 h8 tk8 F8 N8 o8
              (try k_sweep)
              (try dsimp only)
              (try k_fold)
              k_steps
              refine hq _ _ _ (by assumption) (news_sub (by assumption) (by kcj_all)) ?_
              simp
          case zK4 =>
            intro b9 h9 tk9 F9 N9 hb9
            (try k_sweep)
            (try dsimp only)
            (try k_fold)
            k_steps
            · exact (hb9.mp (by assumption)).elim
            unfold Hold
            clear hpre
            rename _ % P = _ => xer
            refine named_eq xer ?_
            intro r0 er0
            subst er0
            rename _ % (3 * N) = _ => xe3n
            refine named_eq xe3n ?_
            intro s3 es3
            subst es3
            rename _ % 1000 = _ => xe1k
            refine named_eq xe1k ?_
            intro g0 eg0
            subst eg0
            rename _ % 9 = _ => xe9
            refine named_eq xe9 ?_
            intro j0 ej0
            subst ej0
            have hav := any_bnd (g := g0) (j := j0) (by omega) (by omega) (by omega) (by omega)
            generalize ([27, 28, 27, 28, 26, 29, 0, 1, g0] : List Int).getD j0.toNat 0 = av at *
            obtain ⟨hav1, hav2⟩ := hav
            have hrec := rec_own K (z := bval (KBw.bInts ma)) (v := av) (r := r0) (s := s3) (by assumption) (by assumption)
            rename Fr _ _ _ _ => lF
            rename News _ _ _ _ => lN
            obtain ⟨u95, ts95, F95⟩ := fr_slim lF [(Str.ofString "curve", Function.const Tok (Value.ref _)), (Str.ofString "octets", Value.bytes _), (Str.ofString "z", Value.int _), (Str.ofString "x", Value.int _), (Str.ofString "s", Value.int _), (Str.ofString "v", Value.int _), (Str.ofString "any_v", Value.int _), (Str.ofString "any_r", Value.int _), (Str.ofString "any_s", Value.int _)] ⟨⟨0, rfl⟩, ⟨_, rfl⟩, ⟨_, rfl⟩, ⟨_, rfl⟩, ⟨_, rfl⟩, ⟨_, rfl⟩, ⟨_, rfl⟩, ⟨_, rfl⟩, ⟨_, rfl⟩, trivial⟩
            dsimp only [bmapT, Function.const] at F95
            have N95 := news_sub lN (led_cons (q := (cv, tup6 P N A B Gx Gy u1 u2 u3 u4 u5 u6 n6)) (by k_mem) led_nil)
            clear lF lN
            refine' cutB ?zF5 ?zN5 False ?zH5 ?zK5
            case zF5 => assumption
            case zN5 => assumption
            case zH5 =>
              intro Q9 pass hq
              k_steps
              refine hq _ _ _ (by assumption) (news_sub (by assumption) (by kcj_all)) ?_
              simp
            case zK5 =>
              clear hrec
              have hrec := rec_own K (z := bval (KBw.bInts ma)) (v := 55 - v1) (r := x0) (s := s1) (pmul_red K hk0 xeR).1 (pmul_red K hk0 xeR).2
              intro b9 h9 tk9 F9 N9 hb9
              (try k_sweep)
              (try dsimp only)
              (try k_fold)
              k_steps
              · exact (hb9.mp (by assumption)).elim
              exact hret0 _ _ _ _ _ (by assumption) (by assumption) rfl))

end
end Mine
theorem PySem.Challenge.cw_iv0042_01_holds : PySem.Challenge.rw_iv0042_01.Holds :=
  Mine.law1
