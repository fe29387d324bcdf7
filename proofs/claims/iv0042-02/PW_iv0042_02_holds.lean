import PyProof.Rows.All
import Wide.All
import OpenK.AllK
import Wide.FinOn
import Lean
import PySem.Challenge.RW_iv0042_02
set_option Elab.async false
set_option maxRecDepth 100000
set_option maxHeartbeats 8000000
namespace Mine
abbrev Tri := Int × Int × Int
/-! what the project's functions reckon, as plain functions -/
def jdbl (P A : Int) (p : Tri) : Tri :=
  if p.2.1 = 0 then (0, 0, 0) else
    let ysq := p.2.1 ^ 2 % P
    let S := 4 * p.1 * ysq % P
    let M := (3 * p.1 ^ 2 + A * p.2.2 ^ 4) % P
    let nx := (M ^ 2 - 2 * S) % P
    let ny := (M * (S - nx) - 8 * ysq ^ 2) % P
    let nz := 2 * p.2.1 * p.2.2 % P
    (nx, ny, nz)
def jadd (P A : Int) (p q : Tri) : Tri :=
  if p.2.1 = 0 then q else if q.2.1 = 0 then p else
    let U1 := p.1 * q.2.2 ^ 2 % P
    let U2 := q.1 * p.2.2 ^ 2 % P
    let S1 := p.2.1 * q.2.2 ^ 3 % P
    let S2 := q.2.1 * p.2.2 ^ 3 % P
    if U1 = U2 then (if S1 = S2 then jdbl P A p else (0, 0, 1)) else
      let H2 := (U2 - U1) * (U2 - U1) % P
      let H3 := (U2 - U1) * H2 % P
      let U1H2 := U1 * H2 % P
      let nx := ((S2 - S1) ^ 2 - H3 - 2 * U1H2) % P
      let ny := ((S2 - S1) * (U1H2 - nx) - S1 * H3) % P
      let nz := (U2 - U1) * p.2.2 * q.2.2 % P
      (nx, ny, nz)
/-- n times a, 0 ≤ n -/
def jmulN (P A : Int) (a : Tri) (n : Nat) : Tri :=
  if n = 0 then (0, 0, 1) else if n = 1 then a else
    if n % 2 = 0 then jdbl P A (jmulN P A a (n / 2)) else jadd P A (jdbl P A (jmulN P A a (n / 2))) a
termination_by n
decreasing_by all_goals omega
def jmul (P N A : Int) (a : Tri) (n : Int) : Tri :=
  if a.2.1 = 0 then (0, 0, 1) else jmulN P A a (n % N).toNat
def bval (ks : List Int) : Int := ks.foldl (fun o k => o * 256 + k) 0
def egl (lm hm low high : Int) : Int :=
  if low > 1 then egl (hm - lm * (high / low)) lm (high - low * (high / low)) low else lm
termination_by low.toNat
decreasing_by
  have h1 := Int.emod_lt_of_pos high (show (0 : Int) < low by omega)
  have h2 := Int.mul_ediv_add_emod high low
  omega
/-- the inverse that the project's inv reckons -/
def pinv (a n : Int) : Int := if a = 0 then 0 else egl 1 0 (a % n) n % n
def fromJ (P : Int) (p : Tri) : Int × Int := (p.1 * pinv p.2.2 P ^ 2 % P, p.2.1 * pinv p.2.2 P ^ 3 % P)
def pmul (P N A : Int) (x y : Int) (n : Int) : Int × Int := fromJ P (jmul P N A (x, y, 1) n)
/-- what ecdsa_raw_sign reckons: z, d the octets' numbers -/
def psign (P N A Gx Gy z d k : Int) : Tri :=
  if pinv k N * (z + (pmul P N A Gx Gy k).1 * d) % N * 2 < N then
    (27 + (pmul P N A Gx Gy k).2 % 2, (pmul P N A Gx Gy k).1, pinv k N * (z + (pmul P N A Gx Gy k).1 * d) % N)
  else (27 + (1 - (pmul P N A Gx Gy k).2 % 2), (pmul P N A Gx Gy k).1, N - pinv k N * (z + (pmul P N A Gx Gy k).1 * d) % N)
/-- the y that ecdsa_raw_recover takes -/
def ybeta (P A B v r : Int) : Int :=
  let c := (r * r * r + A * r + B) % P
  let beta := c ^ ((P + 1) / 4).toNat % P
  if v % 2 = beta % 2 then P - beta else beta
def recBad (P N A B v r s : Int) : Bool :=
  decide (((r * r * r + A * r + B) % P - ybeta P A B v r * ybeta P A B v r) % P ≠ 0 ∨ r % N = 0 ∨ s % N = 0)
def precover (P N A B Gx Gy z v r s : Int) : Option (Int × Int) :=
  if ¬ (v = 27 ∨ v = 28) then none else
    if recBad P N A B v r s = true then none
    else some (fromJ P (jmul P N A (jadd P A (jmul P N A (Gx, Gy, 1) ((N - z) % N)) (jmul P N A (r, ybeta P A B v r, 1) s)) (pinv r N)))

section
variable {F : Type} [Lean.Grind.CommRing F]
theorem lin1 {a b c : F} (h : a - b = c) : a = b + c := by grind
theorem lin2 {a b c : F} (h : b = c + a) : a = b - c := by grind
theorem lin3 {a b : F} (h : a - b = 0) : a = b := by grind
/-- l is the slope of the line through the two places: of the chord, or of the tangent -/
structure Ln (a x1 y1 x2 y2 l : F) : Prop where
  c : y2 - y1 = l * (x2 - x1)
  t : l * (y1 + y2) = x1 * x1 + x1 * x2 + x2 * x2 + a
/-- and the third place of that line, turned over -/
structure Sm3 (a x1 y1 x2 y2 l x4 y4 : F) : Prop where
  c : y2 - y1 = l * (x2 - x1)
  t : l * (y1 + y2) = x1 * x1 + x1 * x2 + x2 * x2 + a
  x : x4 = l * l - x1 - x2
  y : y4 = l * (x1 - x4) - y1
structure Dom (F : Type) [Lean.Grind.CommRing F] : Prop where
  dom : ∀ a b : F, a * b = 0 → a = 0 ∨ b = 0
  two : ∀ a : F, 2 * a = 0 → a = 0

theorem sm3_comm {a x1 y1 x2 y2 l x4 y4 : F} (h : Sm3 a x1 y1 x2 y2 l x4 y4) : Sm3 a x2 y2 x1 y1 l x4 y4 := by
  obtain ⟨h1, h2, h3, h4⟩ := h
  have e2 := lin1 h1
  subst e2
  have ea := lin2 h2
  subst ea h4 h3
  clear h1 h2
  exact ⟨by grind, by grind, by grind, by grind⟩
theorem sm3_on {a b x1 y1 x2 y2 l x4 y4 : F} (h : Sm3 a x1 y1 x2 y2 l x4 y4) (hA : y1 * y1 = x1 * x1 * x1 + a * x1 + b) : y4 * y4 = x4 * x4 * x4 + a * x4 + b := by
  obtain ⟨h1, h2, h3, h4⟩ := h
  have eb := lin2 hA
  have e2 := lin1 h1
  subst e2
  have ea := lin2 h2
  subst eb ea h4 h3
  clear h1 h2 hA
  grind
theorem sm3_back {a x1 y1 x2 y2 l x4 y4 : F} (h : Sm3 a x1 y1 x2 y2 l x4 y4) : Sm3 a x4 y4 x2 (-y2) (-l) x1 y1 := by
  obtain ⟨h1, h2, h3, h4⟩ := h
  have e2 := lin1 h1
  subst e2
  have ea := lin2 h2
  subst ea h4 h3
  clear h1 h2
  exact ⟨by grind, by grind, by grind, by grind⟩
theorem slope_one {a x1 y1 x2 y2 l l' : F} (D : Dom F) (h : Ln a x1 y1 x2 y2 l) (h' : Ln a x1 y1 x2 y2 l') (hn : ¬ (x1 = x2 ∧ y1 + y2 = 0)) : l = l' := by
  obtain ⟨a1, a2⟩ := h
  obtain ⟨b1, b2⟩ := h'
  have e1 : (l - l') * (x2 - x1) = 0 := by clear a2 b2 hn; grind
  have e2 : (l - l') * (y1 + y2) = 0 := by clear a1 b1 hn; grind
  rcases D.dom _ _ e1 with h | h
  · exact lin3 h
  · rcases D.dom _ _ e2 with h' | h'
    · exact lin3 h'
    · exact absurd ⟨(lin3 h).symm, h'⟩ hn
theorem line_R {a x1 y1 x2 y2 x3 y3 l n : F} (a1 : y2 - y1 = l * (x2 - x1)) (a2 : l * (y1 + y2) = x1 * x1 + x1 * x2 + x2 * x2 + a) (b1 : y3 - y2 = n * (x3 - x2)) (b2 : n * (y2 + y3) = x2 * x2 + x2 * x3 + x3 * x3 + a) :
    2 * y2 * (l - n) = (x1 - x2) * ((x1 + x2 + x3) - l * l) + (x3 - x2) * (n * n - (x1 + x2 + x3)) := by grind
theorem dn1 {x1 x2 x3 y2 l : F} (R : 2 * y2 * (l - l) = (x1 - x2) * ((x1 + x2 + x3) - l * l) + (x3 - x2) * (l * l - (x1 + x2 + x3))) : (x1 - x3) * ((x1 + x2 + x3) - l * l) = 0 := by grind
theorem dn2 {x1 y1 x2 y2 y3 l : F} (a1 : y2 - y1 = l * (x2 - x1)) (b1 : y3 - y2 = l * (x1 - x2)) : y1 = y3 := by grind
theorem dn3 {x1 y1 x2 y2 x3 y3 l x4 : F} (a1 : y2 - y1 = l * (x2 - x1)) (b1 : y3 - y2 = l * (x3 - x2)) (a4 : y3 = l * (x1 - x4) - y1) (e4 : x4 = x3) : 2 * y2 + 2 * (l * (x3 - x2)) = 0 := by
  subst e4; grind
theorem dn4 {x1 y1 x2 y2 x3 y3 l x6 : F} (a1 : y2 - y1 = l * (x2 - x1)) (b1 : y3 - y2 = l * (x3 - x2)) (b4 : y1 = l * (x2 - x6) - y2) (e6 : x6 = x1) : 2 * y2 + 2 * (l * (x1 - x2)) = 0 := by
  subst e6; grind
theorem dn5 {x1 x2 x3 y2 l : F} (g1 : 2 * y2 + 2 * (l * (x3 - x2)) = 0) (g2 : 2 * y2 + 2 * (l * (x1 - x2)) = 0) : 2 * (l * (x1 - x3)) = 0 := by grind
/-- δ ≠ 0 -/
theorem delta_ne {a x1 y1 x2 y2 x3 y3 l n x4 y4 x6 y6 : F} (D : Dom F) (h1 : Sm3 a x1 y1 x2 y2 l x4 y4) (h2 : Sm3 a x2 y2 x3 y3 n x6 y6)
    (hAC : ¬ (x1 = x3 ∧ y1 = y3)) (hD : ¬ (x4 = x3 ∧ y4 + y3 = 0)) (hE : ¬ (x6 = x1 ∧ y6 + y1 = 0)) (hy : y2 ≠ 0)
    (c4 : x4 = x3 → y4 = y3 ∨ y4 + y3 = 0) (c6 : x6 = x1 → y6 = y1 ∨ y6 + y1 = 0) : l - n ≠ 0 := by
  intro hd
  have hln : l = n := lin3 hd
  subst hln
  obtain ⟨a1, a2, a3, a4⟩ := h1
  obtain ⟨b1, b2, b3, b4⟩ := h2
  have R := line_R a1 a2 b1 b2
  rcases D.dom _ _ (dn1 R) with h | h
  · have e := lin3 h
    subst e
    exact hAC ⟨rfl, dn2 a1 b1⟩
  · have e4 : x4 = x3 := by clear a1 a2 a4 b1 b2 b3 b4 R hAC hD hE c4 c6; grind
    have e6 : x6 = x1 := by clear a1 a2 a3 a4 b1 b2 b4 R hAC hD hE c4 c6; grind
    have f4 : y4 = y3 := (c4 e4).resolve_right fun q => hD ⟨e4, q⟩
    have f6 : y6 = y1 := (c6 e6).resolve_right fun q => hE ⟨e6, q⟩
    have g1 := dn3 a1 b1 (f4 ▸ a4) e4
    have g2 := dn4 a1 b1 (f6 ▸ b4) e6
    rcases D.dom _ _ (D.two _ (dn5 g1 g2)) with k | k
    · subst k
      exact hy (D.two _ (by clear a1 a2 a3 a4 b1 b2 b3 b4 R hAC hD hE c4 c6 g2 hd h; grind))
    · have e := lin3 k
      subst e
      exact hAC ⟨rfl, dn2 a1 b1⟩
theorem mu1 {x1 y1 x2 y2 y3 l n x4 x3 : F} (a1 : y2 - y1 = l * (x2 - x1)) (b1 : y3 - y2 = n * (x3 - x2)) (a4 : y3 = l * (x1 - x4) - y1) (e4 : x4 = x3) : 2 * y3 = - ((l - n) * (x3 - x2)) := by
  subst e4; grind
theorem mu2 {a x2 x3 y2 y3 l n : F} (b1 : y3 - y2 = n * (x3 - x2)) (b2 : n * (y2 + y3) = x2 * x2 + x2 * x3 + x3 * x3 + a) (g1 : 2 * y3 = - ((l - n) * (x3 - x2))) : 3 * (x3 * x3) + a = (x3 - x2) * (2 * x3 + x2 - l * n) := by grind
theorem mu3 {a y3 m x4 x3 y4 : F} (m2 : m * (y4 + y3) = x4 * x4 + x4 * x3 + x3 * x3 + a) (e4 : x4 = x3) (f4 : y4 = y3) : m * (2 * y3) = 3 * (x3 * x3) + a := by subst e4 f4; grind
theorem mu4 {x1 x2 x3 l n : F} (u0 : x1 + x2 + x3 = l * l) : (l - n) * ((x3 - x2) * (2 * x3 + x2 - l * n)) + (l - n) * l * (- ((l - n) * (x3 - x2))) - (x1 - x3) * (- ((l - n) * (x3 - x2))) = 0 := by
  have e : x1 = l * l - x3 - x2 := by grind
  subst e; clear u0; grind
theorem mu5 {x1 y1 x2 y2 x3 y3 l n : F} (a1 : y2 - y1 = l * (x2 - x1)) (b1 : y3 - y2 = n * (x3 - x2)) (R : 2 * y2 * (l - n) = (x1 - x2) * ((x1 + x2 + x3) - l * l) + (x3 - x2) * (n * n - (x1 + x2 + x3))) :
    (l - n) * (y3 - (l * (x1 - (l * l - x1 - x2)) - y1)) + (l - n) * l * (x3 - (l * l - x1 - x2)) - (x1 - x3) * (x3 - (l * l - x1 - x2)) = 0 := by
  have e1 := lin1 b1
  have e2 : y1 = y2 - l * (x2 - x1) := by clear b1 R e1; grind
  subst e1 e2; clear a1 b1; grind
/-- δ (μ + λ) = x1 - x3 -/
theorem mu_eq {a x1 y1 x2 y2 x3 y3 l n m x4 y4 : F} (D : Dom F) (h1 : Sm3 a x1 y1 x2 y2 l x4 y4) (b1 : y3 - y2 = n * (x3 - x2)) (b2 : n * (y2 + y3) = x2 * x2 + x2 * x3 + x3 * x3 + a)
    (m1 : y3 - y4 = m * (x3 - x4)) (m2 : m * (y4 + y3) = x4 * x4 + x4 * x3 + x3 * x3 + a)
    (hD : ¬ (x4 = x3 ∧ y4 + y3 = 0)) (hy : y3 ≠ 0) (c4 : x4 = x3 → y4 = y3 ∨ y4 + y3 = 0) : (l - n) * (m + l) = x1 - x3 := by
  obtain ⟨a1, a2, a3, a4⟩ := h1
  have R := line_R a1 a2 b1 b2
  by_cases e4 : x4 = x3
  · have f4 : y4 = y3 := (c4 e4).resolve_right fun q => hD ⟨e4, q⟩
    have u0 : x1 + x2 + x3 = l * l := by clear a1 a2 a4 b1 b2 m1 m2 R hD c4 f4; grind
    have g1 := mu1 a1 b1 (f4 ▸ a4) e4
    have g2 := mu2 b1 b2 g1
    have g3 := mu3 m2 e4 f4
    have g4 : 2 * (y3 * ((l - n) * (m + l) - (x1 - x3))) = 0 := by
      have : 2 * (y3 * ((l - n) * (m + l) - (x1 - x3))) = (l - n) * (m * (2 * y3)) + (l - n) * l * (2 * y3) - (x1 - x3) * (2 * y3) := by
        clear g1 g2 g3 u0 f4 e4 R m1 m2 hD c4 a1 a2 a3 a4 b1 b2; grind
      rw [this, g3, g2, g1]
      exact mu4 u0
    rcases D.dom _ _ (D.two _ g4) with k | k
    · exact absurd k hy
    · exact lin3 k
  · have g : (x3 - x4) * ((l - n) * (m + l) - (x1 - x3)) = 0 := by
      have e : (x3 - x4) * ((l - n) * (m + l) - (x1 - x3)) = (l - n) * (m * (x3 - x4)) + (l - n) * l * (x3 - x4) - (x1 - x3) * (x3 - x4) := by
        clear R m1 m2 hD c4 a1 a2 a3 a4 b1 b2 e4; grind
      rw [e, ← m1, a4, a3]
      exact mu5 a1 b1 R
    rcases D.dom _ _ g with k | k
    · exact absurd (lin3 k).symm e4
    · exact lin3 k
theorem as1 {x1 x2 x3 l n m r x4 x5 x6 x7 : F} (k1 : (l - n) * (m + l) = x1 - x3) (k3 : m + l = r + n) (a3 : x4 = l * l - x1 - x2) (b3 : x6 = n * n - x2 - x3) (c3 : x5 = m * m - x4 - x3) (d3 : x7 = r * r - x1 - x6) : x5 = x7 := by
  have e : r = m + l - n := by clear k1 a3 b3 c3 d3; grind
  subst c3 d3 a3 b3 e
  clear k3; grind
theorem as2 {x1 y1 x2 y2 x3 y3 l n m r x4 x5 : F} (k1 : (l - n) * (m + l) = x1 - x3) (k3 : m + l = r + n) (a1 : y2 - y1 = l * (x2 - x1)) (b1 : y3 - y2 = n * (x3 - x2)) (a3 : x4 = l * l - x1 - x2) (c3 : x5 = m * m - x4 - x3) :
    m * (x3 - x5) - y3 = r * (x1 - x5) - y1 := by
  have e : r = m + l - n := by clear k1 a3 c3; grind
  have e1 := lin1 b1
  have e2 : y1 = y2 - l * (x2 - x1) := by clear b1 e1 k1 k3 e c3; grind
  have e4 : x1 = (l - n) * (m + l) + x3 := by clear e e1 e2 k3 a1 b1 a3 c3; grind
  subst c3 a3 e e1 e2
  clear a1 b1 k3
  subst e4
  clear k1
  grind
/-- associativity where all is finite -/
theorem assoc_fin {a x1 y1 x2 y2 x3 y3 l n m r x4 y4 x5 y5 x6 y6 x7 y7 : F} (D : Dom F) (h1 : Sm3 a x1 y1 x2 y2 l x4 y4) (h2 : Sm3 a x2 y2 x3 y3 n x6 y6)
    (h3 : Sm3 a x4 y4 x3 y3 m x5 y5) (h4 : Sm3 a x1 y1 x6 y6 r x7 y7)
    (hAC : ¬ (x1 = x3 ∧ y1 = y3)) (hD : ¬ (x4 = x3 ∧ y4 + y3 = 0)) (hE : ¬ (x6 = x1 ∧ y6 + y1 = 0)) (hy1 : y1 ≠ 0) (hy2 : y2 ≠ 0) (hy3 : y3 ≠ 0)
    (c4 : x4 = x3 → y4 = y3 ∨ y4 + y3 = 0) (c6 : x6 = x1 → y6 = y1 ∨ y6 + y1 = 0) : x5 = x7 ∧ y5 = y7 := by
  have hd := delta_ne D h1 h2 hAC hD hE hy2 c4 c6
  have k1 := mu_eq D h1 h2.c h2.t h3.c h3.t hD hy3 c4
  have h2' := sm3_comm h2
  have h1' := sm3_comm h1
  have h4' := sm3_comm h4
  have k2 := mu_eq D h2' h1'.c h1'.t h4'.c h4'.t hE hy1 c6
  have k3 : m + l = r + n := by
    have q : (l - n) * ((m + l) - (r + n)) = 0 := by clear h1 h2 h3 h4 h2' h1' h4' hAC hD hE c4 c6; grind
    rcases D.dom _ _ q with k | k
    · exact absurd k hd
    · exact lin3 k
  have hx := as1 k1 k3 h1.x h2.x h3.x h4.x
  refine ⟨hx, ?_⟩
  rw [(sm3_comm h3).y, h4.y, ← hx]
  exact as2 k1 k3 h1.c h2.c h1.x h3.x
end

section
variable {F : Type} [Lean.Grind.CommRing F] [DecidableEq F]
abbrev Pt (F : Type) := Option (F × F)
def On (a b : F) : Pt F → Prop
  | none => True
  | some (x, y) => y * y = x * x * x + a * x + b
def pneg : Pt F → Pt F
  | none => none
  | some (x, y) => some (x, -y)
/-- the sum of two places: chord and tangent -/
def padd (inv : F → F) (a : F) : Pt F → Pt F → Pt F
  | none, q => q
  | some p, none => some p
  | some (x1, y1), some (x2, y2) =>
    if x1 = x2 ∧ y1 + y2 = 0 then none else
      let l := if x1 = x2 then (3 * (x1 * x1) + a) * inv (2 * y1) else (y2 - y1) * inv (x2 - x1)
      some (l * l - x1 - x2, l * (x1 - (l * l - x1 - x2)) - y1)
/-- a curve without a place of order two, over a field -/
structure Cv (inv : F → F) (a b : F) : Prop where
  D : Dom F
  inv : ∀ x : F, x ≠ 0 → x * inv x = 1
  root : ∀ x : F, x * x * x + a * x + b ≠ 0
variable {inv : F → F} {a b : F}
theorem on_yne (C : Cv inv a b) {x y : F} (h : On a b (some (x, y))) : y ≠ 0 := by
  intro e
  subst e
  refine C.root x ?_
  have h' : (0 : F) * 0 = x * x * x + a * x + b := h
  clear h
  grind
theorem on_same (C : Cv inv a b) {x1 y1 x2 y2 : F} (h1 : On a b (some (x1, y1))) (h2 : On a b (some (x2, y2))) (e : x1 = x2) : y1 = y2 ∨ y1 + y2 = 0 := by
  subst e
  have h1' : y1 * y1 = x1 * x1 * x1 + a * x1 + b := h1
  have h2' : y2 * y2 = x1 * x1 * x1 + a * x1 + b := h2
  have q : (y1 - y2) * (y1 + y2) = 0 := by clear h1 h2; grind
  rcases C.D.dom _ _ q with k | k
  · exact .inl (lin3 k)
  · exact .inr k
theorem padd_fin (C : Cv inv a b) {x1 y1 x2 y2 : F} (h1 : On a b (some (x1, y1))) (h2 : On a b (some (x2, y2))) (hn : ¬ (x1 = x2 ∧ y1 + y2 = 0)) :
    ∃ l x4 y4, padd inv a (some (x1, y1)) (some (x2, y2)) = some (x4, y4) ∧ Sm3 a x1 y1 x2 y2 l x4 y4 := by
  dsimp only [padd]
  rw [if_neg hn]
  by_cases e : x1 = x2
  · subst e
    rcases on_same C h1 h2 rfl with k | k
    · subst k
      have hy := on_yne C h1
      have h2y : (2 * y1 : F) ≠ 0 := fun q => hy (C.D.two _ q)
      have hi := C.inv _ h2y
      refine ⟨_, _, _, rfl, ?_, ?_, rfl, rfl⟩
      · clear hi h2y hy hn h1 h2; grind
      · rw [if_pos rfl]
        have e9 : (3 * (x1 * x1) + a) * inv (2 * y1) * (y1 + y1) = (3 * (x1 * x1) + a) * ((2 * y1) * inv (2 * y1)) := by clear hi h2y hy hn h1 h2; grind
        rw [e9, hi]
        clear e9 hi h2y hy hn h1 h2; grind
    · exact absurd ⟨rfl, k⟩ hn
  · have hx : x2 - x1 ≠ 0 := fun q => e (lin3 q).symm
    have hi := C.inv _ hx
    refine ⟨_, _, _, rfl, ?_, ?_, rfl, rfl⟩
    · rw [if_neg e]
      have e9 : (y2 - y1) * inv (x2 - x1) * (x2 - x1) = (y2 - y1) * ((x2 - x1) * inv (x2 - x1)) := by clear hi hx hn h1 h2; grind
      rw [e9, hi]
      clear e9 hi hx hn h1 h2; grind
    · rw [if_neg e]
      have h1' : y1 * y1 = x1 * x1 * x1 + a * x1 + b := h1
      have h2' : y2 * y2 = x2 * x2 * x2 + a * x2 + b := h2
      have q : (x2 - x1) * ((y2 - y1) * inv (x2 - x1) * (y1 + y2) - (x1 * x1 + x1 * x2 + x2 * x2 + a)) = 0 := by
        have e9 : (x2 - x1) * ((y2 - y1) * inv (x2 - x1) * (y1 + y2) - (x1 * x1 + x1 * x2 + x2 * x2 + a)) = ((x2 - x1) * inv (x2 - x1)) * ((y2 - y1) * (y1 + y2)) - (x2 - x1) * (x1 * x1 + x1 * x2 + x2 * x2 + a) := by clear hi hx hn h1 h2 h1' h2'; grind
        rw [e9, hi]
        clear e9 hi hx hn h1 h2; grind
      rcases C.D.dom _ _ q with k | k
      · exact absurd k hx
      · exact lin3 k
theorem padd_sm3 (C : Cv inv a b) {x1 y1 x2 y2 l x4 y4 : F} (h1 : On a b (some (x1, y1))) (h2 : On a b (some (x2, y2))) (hn : ¬ (x1 = x2 ∧ y1 + y2 = 0)) (h : Sm3 a x1 y1 x2 y2 l x4 y4) :
    padd inv a (some (x1, y1)) (some (x2, y2)) = some (x4, y4) := by
  obtain ⟨l', x', y', e, h'⟩ := padd_fin C h1 h2 hn
  have el := slope_one C.D ⟨h.c, h.t⟩ ⟨h'.c, h'.t⟩ hn
  subst el
  rw [e, h.y, h'.y, h.x, h'.x]
theorem padd_inf {x1 y1 x2 y2 : F} (h : x1 = x2 ∧ y1 + y2 = 0) : padd inv a (some (x1, y1)) (some (x2, y2)) = none := by
  dsimp only [padd]; rw [if_pos h]
theorem padd_none_l (P : Pt F) : padd inv a none P = P := rfl
theorem padd_none_r (P : Pt F) : padd inv a P none = P := by cases P <;> rfl
theorem padd_on (C : Cv inv a b) {P Q : Pt F} (hP : On a b P) (hQ : On a b Q) : On a b (padd inv a P Q) := by
  match P, Q, hP, hQ with
  | none, Q, _, hQ => exact hQ
  | some p, none, hP, _ => exact hP
  | some (x1, y1), some (x2, y2), hP, hQ =>
    by_cases hn : x1 = x2 ∧ y1 + y2 = 0
    · rw [padd_inf hn]; trivial
    · obtain ⟨l, x4, y4, e, h⟩ := padd_fin C hP hQ hn
      rw [e]
      exact sm3_on h hP
theorem pneg_on {P : Pt F} (hP : On a b P) : On a b (pneg P) := by
  match P, hP with
  | none, _ => trivial
  | some (x, y), hP =>
    have h : y * y = x * x * x + a * x + b := hP
    show (-y) * (-y) = _
    rw [← h]; clear h hP; grind
theorem pneg_pneg (P : Pt F) : pneg (pneg P) = P := by
  match P with
  | none => rfl
  | some (x, y) =>
    have : - -y = y := by grind
    show some (x, - -y) = _
    rw [this]
theorem padd_comm (C : Cv inv a b) {P Q : Pt F} (hP : On a b P) (hQ : On a b Q) : padd inv a P Q = padd inv a Q P := by
  match P, Q, hP, hQ with
  | none, Q, _, _ => rw [padd_none_l, padd_none_r]
  | some p, none, _, _ => rw [padd_none_l, padd_none_r]
  | some (x1, y1), some (x2, y2), hP, hQ =>
    by_cases hn : x1 = x2 ∧ y1 + y2 = 0
    · rw [padd_inf hn, padd_inf ⟨hn.1.symm, by have := hn.2; clear hn hP hQ; grind⟩]
    · obtain ⟨l, x4, y4, e, h⟩ := padd_fin C hP hQ hn
      rw [e]
      exact (padd_sm3 C hQ hP (fun k => hn ⟨k.1.symm, by have := k.2; clear k hn hP hQ e h; grind⟩) (sm3_comm h)).symm
theorem padd_neg (P : Pt F) : padd inv a P (pneg P) = none := by
  match P with
  | none => rfl
  | some (x, y) => exact padd_inf ⟨rfl, by grind⟩
theorem pneg_add (C : Cv inv a b) {P Q : Pt F} (hP : On a b P) (hQ : On a b Q) : padd inv a (pneg P) (pneg Q) = pneg (padd inv a P Q) := by
  match P, Q, hP, hQ with
  | none, Q, _, _ => rfl
  | some p, none, _, _ => show padd inv a (pneg (some p)) none = _; rw [padd_none_r, padd_none_r]
  | some (x1, y1), some (x2, y2), hP, hQ =>
    by_cases hn : x1 = x2 ∧ y1 + y2 = 0
    · rw [padd_inf hn]
      exact padd_inf ⟨hn.1, by have := hn.2; clear hn hP hQ; grind⟩
    · obtain ⟨l, x4, y4, e, h⟩ := padd_fin C hP hQ hn
      rw [e]
      refine padd_sm3 C (l := -l) (pneg_on hP) (pneg_on hQ) (fun k => hn ⟨k.1, by have := k.2; clear k hn hP hQ e h; grind⟩) ?_
      obtain ⟨g1, g2, g3, g4⟩ := h
      clear e hP hQ hn
      exact ⟨by clear g2 g3 g4; grind, by clear g1 g3 g4; grind, by clear g1 g2 g4; grind, by clear g1 g2 g3; grind⟩
theorem padd_cancel (C : Cv inv a b) {P Q : Pt F} (hP : On a b P) (hQ : On a b Q) : padd inv a (padd inv a P Q) (pneg Q) = P := by
  match P, Q, hP, hQ with
  | none, Q, _, _ => exact padd_neg Q
  | some p, none, _, _ => rfl
  | some (x1, y1), some (x2, y2), hP, hQ =>
    by_cases hn : x1 = x2 ∧ y1 + y2 = 0
    · rw [padd_inf hn, padd_none_l]
      show some (x2, -y2) = _
      rw [hn.1, show y1 = -y2 from by have := hn.2; clear hn hP hQ; grind]
    · obtain ⟨l, x4, y4, e, h⟩ := padd_fin C hP hQ hn
      have h4 : On a b (some (x4, y4)) := sm3_on h hP
      rw [e]
      refine padd_sm3 C h4 (pneg_on hQ) (fun k => ?_) (sm3_back h)
      refine on_yne C hQ (C.D.two _ ?_)
      obtain ⟨k1, k2⟩ := k
      have g1 := h.c
      have g4 := h.y
      subst k1
      clear h hP hQ hn e h4
      grind
theorem padd_cancel' (C : Cv inv a b) {P Q : Pt F} (hP : On a b P) (hQ : On a b Q) : padd inv a (pneg Q) (padd inv a Q P) = P := by
  rw [padd_comm C (pneg_on hQ) (padd_on C hQ hP), padd_comm C hQ hP]
  exact padd_cancel C hP hQ
theorem padd_assoc (C : Cv inv a b) {P Q R : Pt F} (hP : On a b P) (hQ : On a b Q) (hR : On a b R) : padd inv a (padd inv a P Q) R = padd inv a P (padd inv a Q R) := by
  match P, Q, R, hP, hQ, hR with
  | none, Q, R, _, _, _ => rfl
  | some p, none, R, _, _, _ => rfl
  | some p, some q, none, _, _, _ => rw [padd_none_r, padd_none_r]
  | some (x1, y1), some (x2, y2), some (x3, y3), hP, hQ, hR =>
    by_cases hAB : x1 = x2 ∧ y1 + y2 = 0
    · have e : some (x1, y1) = pneg (some (x2, y2)) := by
        show _ = some (x2, -y2)
        rw [hAB.1, show y1 = -y2 from by have := hAB.2; clear hAB hP hQ hR; grind]
      rw [padd_inf hAB, padd_none_l, e]
      exact (padd_cancel' C hR hQ).symm
    by_cases hBC : x2 = x3 ∧ y2 + y3 = 0
    · have e : some (x3, y3) = pneg (some (x2, y2)) := by
        show _ = some (x2, -y2)
        rw [hBC.1, show y3 = -y2 from by have := hBC.2; clear hBC hAB hP hQ hR; grind]
      rw [padd_inf hBC, padd_none_r, e]
      exact padd_cancel C hP hQ
    obtain ⟨l, x4, y4, eD, h1⟩ := padd_fin C hP hQ hAB
    obtain ⟨n, x6, y6, eE, h2⟩ := padd_fin C hQ hR hBC
    have hD : On a b (some (x4, y4)) := sm3_on h1 hP
    have hE : On a b (some (x6, y6)) := sm3_on h2 hQ
    by_cases kD : x4 = x3 ∧ y4 + y3 = 0
    · have e : some (x3, y3) = pneg (some (x4, y4)) := by
        show _ = some (x4, -y4)
        rw [kD.1, show y3 = -y4 from by have := kD.2; clear kD h1 h2 hD hE eD eE hAB hBC hP hQ hR; grind]
      have e2 : padd inv a (some (x2, y2)) (some (x3, y3)) = pneg (some (x1, y1)) := by
        have q := padd_cancel C hP hQ
        rw [eD] at q
        rw [← q, ← pneg_add C hD (pneg_on hQ), pneg_pneg, e]
        exact padd_comm C hQ (pneg_on hD)
      rw [eD, padd_inf kD, e2, padd_neg]
    by_cases kE : x6 = x1 ∧ y6 + y1 = 0
    · have e : some (x1, y1) = pneg (some (x6, y6)) := by
        show _ = some (x6, -y6)
        rw [kE.1, show y1 = -y6 from by have := kE.2; clear kE kD h1 h2 hD hE eD eE hAB hBC hP hQ hR; grind]
      have e2 : padd inv a (some (x1, y1)) (some (x2, y2)) = pneg (some (x3, y3)) := by
        have q := padd_cancel C hR hQ
        rw [padd_comm C hR hQ, eE] at q
        rw [← q, ← pneg_add C hE (pneg_on hQ), pneg_pneg, e]
      rw [eE, e2, padd_comm C hP hE, padd_inf kE, padd_comm C (pneg_on hR) hR, padd_neg]
    by_cases hAC : x1 = x3 ∧ y1 = y3
    · obtain ⟨rfl, rfl⟩ := hAC
      rw [padd_comm C hQ hR]
      exact padd_comm C (padd_on C hP hQ) hP
    have kE' : ¬ (x1 = x6 ∧ y1 + y6 = 0) := fun k => kE ⟨k.1.symm, by have := k.2; clear k kE kD h1 h2 hD hE eD eE hAB hBC hP hQ hR hAC; grind⟩
    obtain ⟨m, x5, y5, e5, h3⟩ := padd_fin C hD hR kD
    obtain ⟨r, x7, y7, e7, h4⟩ := padd_fin C hP hE kE'
    obtain ⟨q1, q2⟩ := assoc_fin C.D h1 h2 h3 h4 hAC kD kE (on_yne C hP) (on_yne C hQ) (on_yne C hR) (on_same C hD hR) (on_same C hE hP)
    rw [eD, eE, e5, e7, q1, q2]
end

theorem perm_of_nodup_subset {α : Type} [DecidableEq α] : ∀ {l1 l2 : List α}, l1.Nodup → (∀ x ∈ l1, x ∈ l2) → l2.length ≤ l1.length → l1.Perm l2
  | [], l2, _, _, h => by
    have : l2 = [] := List.eq_nil_of_length_eq_zero (by simpa using h)
    rw [this]
  | x :: t, l2, hn, hs, h => by
    have hx : x ∈ l2 := hs x (List.mem_cons_self)
    have h1 := List.perm_cons_erase hx
    have hn' := List.nodup_cons.mp hn
    have h2 : t.Perm (l2.erase x) := by
      refine perm_of_nodup_subset hn'.2 (fun y hy => ?_) ?_
      · have hyx : y ≠ x := fun e => hn'.1 (e ▸ hy)
        exact (List.mem_erase_of_ne hyx).mpr (hs y (List.mem_cons_of_mem _ hy))
      · rw [List.length_erase_of_mem hx]
        simp at h
        omega
    exact (h2.cons x).trans h1.symm
/-- a prime -/
def Prm (p : Nat) : Prop := 1 < p ∧ ∀ d, d ∣ p → d = 1 ∨ d = p
theorem prm_dvd_mul {p a b : Nat} (hp : Prm p) (h : p ∣ a * b) : p ∣ a ∨ p ∣ b := by
  by_cases ha : p ∣ a
  · exact .inl ha
  · right
    have hg : Nat.gcd p a = 1 := by
      rcases hp.2 _ (Nat.gcd_dvd_left p a) with e | e
      · exact e
      · exact absurd (e ▸ Nat.gcd_dvd_right p a) ha
    exact Nat.Coprime.dvd_of_dvd_mul_left (k := p) (m := a) (n := b) hg h
section
variable {p : Nat} [NeZero p]
theorem fin_zero_iff (x : Fin p) : x = 0 ↔ p ∣ x.val := by
  have hx := x.isLt
  constructor
  · intro e; subst e; simp
  · intro h
    apply Fin.ext
    rw [Fin.val_zero]
    exact Nat.eq_zero_of_dvd_of_lt h hx
theorem fin_dom (hp : Prm p) (a b : Fin p) (h : a * b = 0) : a = 0 ∨ b = 0 := by
  rw [fin_zero_iff, Fin.val_mul] at h
  have h' : p ∣ a.val * b.val := by
    have := (Nat.dvd_mod_iff (Nat.dvd_refl p)).mp h
    exact this
  rcases prm_dvd_mul hp h' with k | k
  · exact .inl ((fin_zero_iff a).mpr k)
  · exact .inr ((fin_zero_iff b).mpr k)
end
def lprod {p : Nat} [NeZero p] (l : List (Fin p)) : Fin p := l.foldr (fun x y => x * y) 1
section
variable {p : Nat} [NeZero p]
theorem lprod_perm {l l' : List (Fin p)} (h : l.Perm l') : lprod l = lprod l' := by
  induction h with
  | nil => rfl
  | cons x _ ih => show x * _ = x * _; exact congrArg _ ih
  | swap x y l => show y * (x * lprod l) = x * (y * lprod l); grind
  | trans _ _ i1 i2 => exact i1.trans i2
theorem lprod_map (a : Fin p) : ∀ l : List (Fin p), lprod (l.map (fun x => a * x)) = a ^ l.length * lprod l
  | [] => by show (1 : Fin p) = a ^ 0 * 1; grind
  | x :: l => by
    show a * x * lprod (l.map _) = a ^ (l.length + 1) * (x * lprod l)
    rw [lprod_map a l]
    grind
theorem lprod_ne (hp : Prm p) : ∀ l : List (Fin p), (∀ x ∈ l, x ≠ 0) → lprod l ≠ 0
  | [], _ => by
    show (1 : Fin p) ≠ 0
    intro e
    rw [fin_zero_iff] at e
    have h1 : (1 : Fin p).val = 1 % p := rfl
    rw [h1, Nat.mod_eq_of_lt hp.1] at e
    have := Nat.le_of_dvd (by decide) e
    have := hp.1
    omega
  | x :: l, h => by
    intro e
    rcases fin_dom hp x (lprod l) e with k | k
    · exact h x List.mem_cons_self k
    · exact lprod_ne hp l (fun y hy => h y (List.mem_cons_of_mem _ hy)) k
theorem nodup_map_inj {α β : Type} {f : α → β} (hf : ∀ x y, f x = f y → x = y) : ∀ {l : List α}, l.Nodup → (l.map f).Nodup
  | [], _ => List.nodup_nil
  | x :: l, h => by
    have h' := List.nodup_cons.mp h
    rw [List.map_cons, List.nodup_cons]
    refine ⟨fun hm => ?_, nodup_map_inj hf h'.2⟩
    obtain ⟨y, hy, e⟩ := List.mem_map.mp hm
    exact h'.1 (hf y x e ▸ hy)
theorem fin_fermat (hp : Prm p) (a : Fin p) (ha : a ≠ 0) : a ^ (p - 1) = 1 := by
  obtain ⟨n, hn⟩ : ∃ n, p = n + 1 := ⟨p - 1, by have := hp.1; omega⟩
  subst hn
  have hl : ∀ x ∈ (List.finRange n).map Fin.succ, x ≠ (0 : Fin (n + 1)) := by
    intro x hx
    obtain ⟨y, _, e⟩ := List.mem_map.mp hx
    rw [← e]
    exact Fin.succ_ne_zero y
  have hnd : ((List.finRange n).map Fin.succ).Nodup := nodup_map_inj (fun x y h => Fin.succ_inj.mp h) (List.nodup_finRange n)
  have hall : ∀ x : Fin (n + 1), x ≠ 0 → x ∈ (List.finRange n).map Fin.succ := by
    intro x hx
    obtain ⟨y, e⟩ : ∃ y : Fin n, y.succ = x := ⟨x.pred hx, Fin.succ_pred x hx⟩
    rw [← e]
    exact List.mem_map_of_mem (List.mem_finRange y)
  have hinj : ∀ x y : Fin (n + 1), a * x = a * y → x = y := by
    intro x y e
    have : a * (x - y) = 0 := by grind
    rcases fin_dom hp _ _ this with k | k
    · exact absurd k ha
    · grind
  have hperm : (((List.finRange n).map Fin.succ).map (fun x => a * x)).Perm ((List.finRange n).map Fin.succ) := by
    refine perm_of_nodup_subset (nodup_map_inj hinj hnd) (fun x hx => ?_) (by simp)
    obtain ⟨y, hy, e⟩ := List.mem_map.mp hx
    rw [← e]
    refine hall _ fun q => ?_
    rcases fin_dom hp _ _ q with k | k
    · exact ha k
    · exact hl y hy k
  have h1 := lprod_perm hperm
  rw [lprod_map] at h1
  have hne := lprod_ne hp _ hl
  have h2 : ((a ^ n - 1) : Fin (n + 1)) * lprod ((List.finRange n).map Fin.succ) = 0 := by
    simp only [List.length_map, List.length_finRange] at h1
    clear hperm hinj hall hnd hl hne
    grind
  rcases fin_dom hp _ _ h2 with k | k
  · show a ^ n = 1
    clear h1 h2 hperm
    grind
  · exact absurd k hne
/-- the inverse by Fermat -/
def finv (x : Fin p) : Fin p := x ^ (p - 2)
theorem fin_inv (hp : Prm p) (x : Fin p) (hx : x ≠ 0) : x * finv x = 1 := by
  have h := fin_fermat hp x hx
  unfold finv
  have e : p - 1 = (p - 2) + 1 := by have := hp.1; omega
  rw [e] at h
  grind
end

section
variable {p : Nat} [NeZero p]
/-- an int's rest -/
def fc (p : Nat) [NeZero p] (x : Int) : Fin p := Fin.ofNat p (x % (p : Int)).toNat
theorem npos : (0 : Int) < (p : Int) := by have := Nat.pos_of_ne_zero (NeZero.ne p); omega
theorem fc_val (x : Int) : ((fc p x).val : Int) = x % (p : Int) := by
  have h0 := Int.emod_nonneg x (show (p : Int) ≠ 0 by have := npos (p := p); omega)
  have h1 := Int.emod_lt_of_pos x (npos (p := p))
  show (((x % (p : Int)).toNat % p : Nat) : Int) = _
  rw [Nat.mod_eq_of_lt (by omega)]
  exact Int.toNat_of_nonneg h0
theorem fc_eq {x y : Int} : fc p x = fc p y ↔ x % (p : Int) = y % (p : Int) := by
  rw [← fc_val (p := p) x, ← fc_val (p := p) y]
  constructor
  · intro h; rw [h]
  · intro h
    exact Fin.ext (by omega)
theorem fc_mod (x : Int) : fc p (x % (p : Int)) = fc p x := fc_eq.mpr (Int.emod_emod_of_dvd _ (Int.dvd_refl _))
theorem fc_add (x y : Int) : fc p (x + y) = fc p x + fc p y := by
  apply Fin.ext
  have h : (((fc p x + fc p y : Fin p).val : Nat) : Int) = (x + y) % (p : Int) := by
    rw [Fin.val_add, Int.natCast_emod, Int.natCast_add, fc_val, fc_val, ← Int.add_emod]
  have h' := fc_val (p := p) (x + y)
  omega
theorem fc_mul (x y : Int) : fc p (x * y) = fc p x * fc p y := by
  apply Fin.ext
  have h : (((fc p x * fc p y : Fin p).val : Nat) : Int) = (x * y) % (p : Int) := by
    rw [Fin.val_mul, Int.natCast_emod, Int.natCast_mul, fc_val, fc_val, ← Int.mul_emod]
  have h' := fc_val (p := p) (x * y)
  omega
theorem fc_zero : fc p 0 = 0 := by
  apply Fin.ext
  have h := fc_val (p := p) 0
  rw [Int.zero_emod] at h
  rw [Fin.val_zero]
  omega
theorem fc_neg (x : Int) : fc p (-x) = - fc p x := by
  have h : fc p (-x) + fc p x = 0 := by rw [← fc_add, Int.add_left_neg, fc_zero]
  grind
theorem fc_sub (x y : Int) : fc p (x - y) = fc p x - fc p y := by
  rw [Int.sub_eq_add_neg, fc_add, fc_neg]; grind
theorem fc_one : fc p 1 = 1 := by
  apply Fin.ext
  have h := fc_val (p := p) 1
  have h2 : (1 : Fin p).val = 1 % p := rfl
  have h3 : ((1 % p : Nat) : Int) = (1 : Int) % (p : Int) := Int.natCast_emod 1 p
  rw [h2]
  omega
theorem fc_pow (x : Int) : ∀ k : Nat, fc p (x ^ k) = fc p x ^ k
  | 0 => by rw [Int.pow_zero, fc_one]; grind
  | k + 1 => by rw [Int.pow_succ, fc_mul, fc_pow x k]; grind
theorem fc_two : fc p 2 = 2 := by
  have h : fc p (1 + 1) = 1 + 1 := by rw [fc_add, fc_one]
  have e : (1 + 1 : Int) = 2 := rfl
  rw [e] at h
  rw [h]; grind
theorem fc_three : fc p 3 = 3 := by
  have h : fc p (2 + 1) = 2 + 1 := by rw [fc_add, fc_one, fc_two]
  have e : (2 + 1 : Int) = 3 := rfl
  rw [e] at h
  rw [h]; grind
theorem fc_four : fc p 4 = 4 := by
  have h : fc p (2 + 2) = 2 + 2 := by rw [fc_add, fc_two]
  have e : (2 + 2 : Int) = 4 := rfl
  rw [e] at h
  rw [h]; grind
theorem fc_eight : fc p 8 = 8 := by
  have h : fc p (4 + 4) = 4 + 4 := by rw [fc_add, fc_four]
  have e : (4 + 4 : Int) = 8 := rfl
  rw [e] at h
  rw [h]; grind
theorem fc_zero_iff {x : Int} (h0 : 0 ≤ x) (h1 : x < (p : Int)) : fc p x = 0 ↔ x = 0 := by
  rw [← fc_zero (p := p), fc_eq, Int.zero_emod, Int.emod_eq_of_lt h0 h1]
end

section
variable {p : Nat} [NeZero p] {a b : Fin p}
abbrev Red (p : Nat) (x : Int) : Prop := 0 ≤ x ∧ x < (p : Int)
/-- the three ints stand for the place: x Z², y Z³, Z -/
def Rep (p : Nat) [NeZero p] (T : Tri) : Pt (Fin p) → Prop
  | none => T.1 = 0 ∧ T.2.1 = 0
  | some (x, y) => Red p T.2.1 ∧ fc p T.2.2 ≠ 0 ∧ fc p T.1 = x * (fc p T.2.2 * fc p T.2.2) ∧ fc p T.2.1 = y * (fc p T.2.2 * fc p T.2.2 * fc p T.2.2)
theorem rep_y0 {T : Tri} {P : Pt (Fin p)} (hp : Prm p) (hP : On a b P) (C : Cv finv a b) (h : Rep p T P) : T.2.1 = 0 ↔ P = none := by
  match P, h with
  | none, h => exact ⟨fun _ => rfl, fun _ => h.2⟩
  | some (x, y), h =>
    refine ⟨fun e => ?_, fun e => nomatch e⟩
    obtain ⟨_, hz, _, hy⟩ := h
    rw [e, fc_zero] at hy
    rcases fin_dom hp _ _ hy.symm with k | k
    · exact absurd k (on_yne C hP)
    · rcases fin_dom hp _ _ k with k | k
      · rcases fin_dom hp _ _ k with k | k
        · exact absurd k hz
        · exact absurd k hz
      · exact absurd k hz
theorem red_mod (x : Int) : Red p (x % (p : Int)) := ⟨Int.emod_nonneg x (by have := npos (p := p); omega), Int.emod_lt_of_pos x npos⟩

theorem dbl1 {F : Type} [Lean.Grind.CommRing F] {a X Y Z x y l : F} (hx : X = x * (Z * Z)) (hy : Y = y * (Z * Z * Z)) (hl : l * (2 * y) = 3 * (x * x) + a) :
    (3 * (X * X) + a * (Z * Z * Z * Z)) * (3 * (X * X) + a * (Z * Z * Z * Z)) - 2 * (4 * X * (Y * Y)) = (l * l - x - x) * ((2 * Y * Z) * (2 * Y * Z)) := by
  have e := lin2 hl
  have ea : a = l * (2 * y) - 3 * (x * x) := by clear hx hy e; grind
  subst ea hx hy
  clear hl e
  grind
theorem dbl2 {F : Type} [Lean.Grind.CommRing F] {a X Y Z x y l nx : F} (hx : X = x * (Z * Z)) (hy : Y = y * (Z * Z * Z)) (hl : l * (2 * y) = 3 * (x * x) + a) (hn : nx = (l * l - x - x) * ((2 * Y * Z) * (2 * Y * Z))) :
    (3 * (X * X) + a * (Z * Z * Z * Z)) * (4 * X * (Y * Y) - nx) - 8 * ((Y * Y) * (Y * Y)) = (l * (x - (l * l - x - x)) - y) * ((2 * Y * Z) * (2 * Y * Z) * (2 * Y * Z)) := by
  have ea : a = l * (2 * y) - 3 * (x * x) := by clear hx hy hn; grind
  subst hn ea hx hy
  clear hl
  grind
theorem add1 {F : Type} [Lean.Grind.CommRing F] {X1 Y1 Z1 X2 Y2 Z2 x1 y1 x2 y2 l : F} (hx1 : X1 = x1 * (Z1 * Z1)) (hy1 : Y1 = y1 * (Z1 * Z1 * Z1)) (hx2 : X2 = x2 * (Z2 * Z2)) (hy2 : Y2 = y2 * (Z2 * Z2 * Z2)) (hl : y2 - y1 = l * (x2 - x1)) {H : F} (hH : H = X2 * (Z1 * Z1) - X1 * (Z2 * Z2)) :
    (Y2 * (Z1 * Z1 * Z1) - Y1 * (Z2 * Z2 * Z2)) * (Y2 * (Z1 * Z1 * Z1) - Y1 * (Z2 * Z2 * Z2)) - H * (H * H) - 2 * (X1 * (Z2 * Z2) * (H * H)) = (l * l - x1 - x2) * ((H * Z1 * Z2) * (H * Z1 * Z2)) := by
  have e2 := lin1 hl
  subst e2 hH hx1 hy1 hx2 hy2
  clear hl
  grind
theorem add2 {F : Type} [Lean.Grind.CommRing F] {X1 Y1 Z1 X2 Y2 Z2 x1 y1 x2 y2 l nx : F} (hx1 : X1 = x1 * (Z1 * Z1)) (hy1 : Y1 = y1 * (Z1 * Z1 * Z1)) (hx2 : X2 = x2 * (Z2 * Z2)) (hy2 : Y2 = y2 * (Z2 * Z2 * Z2)) (hl : y2 - y1 = l * (x2 - x1)) {H : F} (hH : H = X2 * (Z1 * Z1) - X1 * (Z2 * Z2)) (hn : nx = (l * l - x1 - x2) * ((H * Z1 * Z2) * (H * Z1 * Z2))) :
    (Y2 * (Z1 * Z1 * Z1) - Y1 * (Z2 * Z2 * Z2)) * (X1 * (Z2 * Z2) * (H * H) - nx) - Y1 * (Z2 * Z2 * Z2) * (H * (H * H)) = (l * (x1 - (l * l - x1 - x2)) - y1) * ((H * Z1 * Z2) * (H * Z1 * Z2) * (H * Z1 * Z2)) := by
  have e2 := lin1 hl
  have e3 : H = (x2 - x1) * ((Z1 * Z1) * (Z2 * Z2)) := by rw [hH, hx1, hx2]; clear hy1 hy2 hl hn e2 hH; grind
  subst hn e2 hx1 hy1 hx2 hy2
  have e4 : (y1 + l * (x2 - x1)) * (Z2 * Z2 * Z2) * (Z1 * Z1 * Z1) - y1 * (Z1 * Z1 * Z1) * (Z2 * Z2 * Z2) = l * (Z1 * Z2) * H := by rw [e3]; clear hl hH e3; grind
  rw [e4]
  clear hl hH e4 e3
  grind
theorem fsq (x : Int) : fc p (x ^ 2) = fc p x * fc p x := by rw [fc_pow]; grind
theorem fcube (x : Int) : fc p (x ^ 3) = fc p x * fc p x * fc p x := by rw [fc_pow]; grind
theorem ffour (x : Int) : fc p (x ^ 4) = fc p x * fc p x * fc p x * fc p x := by rw [fc_pow]; grind
theorem fin_ne_mul (hp : Prm p) {x y : Fin p} (hx : x ≠ 0) (hy : y ≠ 0) : x * y ≠ 0 := fun e => (fin_dom hp _ _ e).elim hx hy
theorem rep_dbl (hp : Prm p) {A : Int} (C : Cv finv (fc p A) b) {T : Tri} {P : Pt (Fin p)} (hP : On (fc p A) b P) (h : Rep p T P) : Rep p (jdbl p A T) (padd finv (fc p A) P P) := by
  have h0 := rep_y0 hp hP C h
  match P, h with
  | none, h =>
    unfold jdbl
    rw [if_pos h.2]
    exact ⟨rfl, rfl⟩
  | some (x, y), h =>
    have hne : T.2.1 ≠ 0 := fun e => nomatch h0.mp e
    obtain ⟨hr, hz, hx, hy⟩ := h
    have hy0 := on_yne C hP
    have hn : ¬ (x = x ∧ y + y = 0) := fun k => hy0 (C.D.two _ (by have := k.2; clear k h0 hne hr hz hx hy hy0; grind))
    obtain ⟨l, x4, y4, e, q⟩ := padd_fin C hP hP hn
    rw [e]
    unfold jdbl
    rw [if_neg hne]
    have hY0 : fc p T.2.1 ≠ 0 := by
      rw [hy]
      exact fin_ne_mul hp hy0 (fin_ne_mul hp (fin_ne_mul hp hz hz) hz)
    have h2 : (2 : Fin p) ≠ 0 := fun e => by
      have : (2 : Fin p) * 1 = 0 := by rw [e]; clear e h0 hne hr hz hx hy hy0 hn q hY0; grind
      have h1 := C.D.two _ this
      have h3 := fin_inv hp _ hz
      rw [h1] at h3
      exact hz (by have : fc p T.2.2 = fc p T.2.2 * 1 := by (clear h0 hne hr hz hx hy hy0 hn q hY0 e this h1 h3; grind)
                   rw [this, h1]; clear h0 hne hr hz hx hy hy0 hn q hY0 e this h1 h3; grind)
    have hl : l * (2 * y) = 3 * (x * x) + fc p A := by
      have := q.t
      clear h0 hne hr hz hx hy hy0 hn hY0 h2 e
      grind
    have eN : fc p ((3 * T.1 ^ 2 + A * T.2.2 ^ 4) % (p : Int)) = 3 * (fc p T.1 * fc p T.1) + fc p A * (fc p T.2.2 * fc p T.2.2 * fc p T.2.2 * fc p T.2.2) := by
      rw [fc_mod, fc_add, fc_mul, fc_mul, fsq, ffour, fc_three]
    have eS : fc p (4 * T.1 * (T.2.1 ^ 2 % (p : Int)) % (p : Int)) = 4 * fc p T.1 * (fc p T.2.1 * fc p T.2.1) := by
      rw [fc_mod, fc_mul, fc_mul, fc_mod, fsq, fc_four]
    have eZ : fc p (2 * T.2.1 * T.2.2 % (p : Int)) = 2 * fc p T.2.1 * fc p T.2.2 := by
      rw [fc_mod, fc_mul, fc_mul, fc_two]
    have eX : fc p ((((3 * T.1 ^ 2 + A * T.2.2 ^ 4) % (p : Int)) ^ 2 - 2 * (4 * T.1 * (T.2.1 ^ 2 % (p : Int)) % (p : Int))) % (p : Int)) = (l * l - x - x) * ((2 * fc p T.2.1 * fc p T.2.2) * (2 * fc p T.2.1 * fc p T.2.2)) := by
      rw [fc_mod, fc_sub, fc_mul, fsq, eN, eS, fc_two]
      exact dbl1 hx hy hl
    refine ⟨red_mod _, ?_, ?_, ?_⟩
    · show fc p (2 * T.2.1 * T.2.2 % (p : Int)) ≠ 0
      rw [eZ]
      exact fin_ne_mul hp (fin_ne_mul hp h2 hY0) hz
    · show fc p ((((3 * T.1 ^ 2 + A * T.2.2 ^ 4) % (p : Int)) ^ 2 - 2 * (4 * T.1 * (T.2.1 ^ 2 % (p : Int)) % (p : Int))) % (p : Int)) = x4 * (fc p (2 * T.2.1 * T.2.2 % (p : Int)) * fc p (2 * T.2.1 * T.2.2 % (p : Int)))
      rw [eX, eZ, q.x]
    · show fc p ((((3 * T.1 ^ 2 + A * T.2.2 ^ 4) % (p : Int)) * ((4 * T.1 * (T.2.1 ^ 2 % (p : Int)) % (p : Int)) - (((3 * T.1 ^ 2 + A * T.2.2 ^ 4) % (p : Int)) ^ 2 - 2 * (4 * T.1 * (T.2.1 ^ 2 % (p : Int)) % (p : Int))) % (p : Int)) - 8 * (T.2.1 ^ 2 % (p : Int)) ^ 2) % (p : Int)) = y4 * (fc p (2 * T.2.1 * T.2.2 % (p : Int)) * fc p (2 * T.2.1 * T.2.2 % (p : Int)) * fc p (2 * T.2.1 * T.2.2 % (p : Int)))
      rw [fc_mod, fc_sub, fc_mul, fc_sub, fc_mul 8, fsq, fc_mod (T.2.1 ^ 2), fsq, eN, eS, eX, eZ, fc_eight, q.y, q.x]
      exact dbl2 hx hy hl rfl
theorem rep_add (hp : Prm p) {A : Int} (C : Cv finv (fc p A) b) {T U : Tri} {P Q : Pt (Fin p)} (hP : On (fc p A) b P) (hQ : On (fc p A) b Q) (h : Rep p T P) (h' : Rep p U Q) : Rep p (jadd p A T U) (padd finv (fc p A) P Q) := by
  have h0 := rep_y0 hp hP C h
  have h0' := rep_y0 hp hQ C h'
  match P, Q, h, h' with
  | none, Q, h, h' => unfold jadd; rw [if_pos h.2]; exact h'
  | some (x1, y1), none, h, h' =>
    unfold jadd
    rw [if_neg (fun e => nomatch h0.mp e), if_pos h'.2]
    exact h
  | some (x1, y1), some (x2, y2), h, h' =>
    have hne : T.2.1 ≠ 0 := fun e => nomatch h0.mp e
    have hne' : U.2.1 ≠ 0 := fun e => nomatch h0'.mp e
    have hd := rep_dbl hp C hP h
    obtain ⟨hr, hz, hx, hy⟩ := h
    obtain ⟨hr', hz', hx', hy'⟩ := h'
    have eU1 : fc p (T.1 * U.2.2 ^ 2 % (p : Int)) = fc p T.1 * (fc p U.2.2 * fc p U.2.2) := by rw [fc_mod, fc_mul, fsq]
    have eU2 : fc p (U.1 * T.2.2 ^ 2 % (p : Int)) = fc p U.1 * (fc p T.2.2 * fc p T.2.2) := by rw [fc_mod, fc_mul, fsq]
    have eS1 : fc p (T.2.1 * U.2.2 ^ 3 % (p : Int)) = fc p T.2.1 * (fc p U.2.2 * fc p U.2.2 * fc p U.2.2) := by rw [fc_mod, fc_mul, fcube]
    have eS2 : fc p (U.2.1 * T.2.2 ^ 3 % (p : Int)) = fc p U.2.1 * (fc p T.2.2 * fc p T.2.2 * fc p T.2.2) := by rw [fc_mod, fc_mul, fcube]
    have hW := fin_ne_mul hp (fin_ne_mul hp hz hz) (fin_ne_mul hp hz' hz')
    have hW3 := fin_ne_mul hp (fin_ne_mul hp (fin_ne_mul hp hz hz) hz) (fin_ne_mul hp (fin_ne_mul hp hz' hz') hz')
    have iU : T.1 * U.2.2 ^ 2 % (p : Int) = U.1 * T.2.2 ^ 2 % (p : Int) ↔ x1 = x2 := by
      rw [← fc_eq, fc_mul, fc_mul, fsq, fsq, hx, hx']
      constructor
      · intro e
        have k : (x1 - x2) * ((fc p T.2.2 * fc p T.2.2) * (fc p U.2.2 * fc p U.2.2)) = 0 := by
          clear h0 h0' hne hne' hd hx hy hx' hy' eU1 eU2 eS1 eS2 hW hW3 hr hr' hz hz'; grind
        rcases fin_dom hp _ _ k with k | k
        · exact lin3 k
        · exact absurd k hW
      · intro e; subst e; clear h0 h0' hne hne' hd hx hy hx' hy' eU1 eU2 eS1 eS2 hW hW3 hr hr' hz hz'; grind
    have iS : T.2.1 * U.2.2 ^ 3 % (p : Int) = U.2.1 * T.2.2 ^ 3 % (p : Int) ↔ y1 = y2 := by
      rw [← fc_eq, fc_mul, fc_mul, fcube, fcube, hy, hy']
      constructor
      · intro e
        have k : (y1 - y2) * ((fc p T.2.2 * fc p T.2.2 * fc p T.2.2) * (fc p U.2.2 * fc p U.2.2 * fc p U.2.2)) = 0 := by
          clear h0 h0' hne hne' hd hx hy hx' hy' eU1 eU2 eS1 eS2 hW hW3 hr hr' hz hz' iU; grind
        rcases fin_dom hp _ _ k with k | k
        · exact lin3 k
        · exact absurd k hW3
      · intro e; subst e; clear h0 h0' hne hne' hd hx hy hx' hy' eU1 eU2 eS1 eS2 hW hW3 hr hr' hz hz' iU; grind
    unfold jadd
    rw [if_neg hne, if_neg hne']
    dsimp only
    by_cases kx : x1 = x2
    · rw [if_pos (iU.mpr kx)]
      subst kx
      by_cases ky : y1 = y2
      · rw [if_pos (iS.mpr ky)]
        subst ky
        exact hd
      · rw [if_neg (fun e => ky (iS.mp e))]
        rw [padd_inf ⟨rfl, (on_same C hP hQ rfl).resolve_left ky⟩]
        exact ⟨rfl, rfl⟩
    · rw [if_neg (fun e => kx (iU.mp e))]
      have hn : ¬ (x1 = x2 ∧ y1 + y2 = 0) := fun k => kx k.1
      obtain ⟨l, x4, y4, e, q⟩ := padd_fin C hP hQ hn
      rw [e]
      generalize hu1 : T.1 * U.2.2 ^ 2 % (p : Int) = u1 at *
      generalize hu2 : U.1 * T.2.2 ^ 2 % (p : Int) = u2 at *
      generalize hs1 : T.2.1 * U.2.2 ^ 3 % (p : Int) = s1 at *
      generalize hs2 : U.2.1 * T.2.2 ^ 3 % (p : Int) = s2 at *
      have eH : fc p (u2 - u1) = fc p U.1 * (fc p T.2.2 * fc p T.2.2) - fc p T.1 * (fc p U.2.2 * fc p U.2.2) := by rw [fc_sub, eU1, eU2]
      have hH : fc p (u2 - u1) ≠ 0 := by
        rw [eH, hx, hx']
        intro k
        have k' : (x2 - x1) * ((fc p T.2.2 * fc p T.2.2) * (fc p U.2.2 * fc p U.2.2)) = 0 := by
          clear h0 h0' hne hne' hd hx hy hx' hy' eU1 eU2 eS1 eS2 hW hW3 hr hr' hz hz' iU iS eH e q hn kx; grind
        rcases fin_dom hp _ _ k' with k | k
        · exact kx (lin3 k).symm
        · exact hW k
      have eZ : fc p ((u2 - u1) * T.2.2 * U.2.2 % (p : Int)) = fc p (u2 - u1) * fc p T.2.2 * fc p U.2.2 := by rw [fc_mod, fc_mul, fc_mul]
      have eH2 : fc p ((u2 - u1) * (u2 - u1) % (p : Int)) = fc p (u2 - u1) * fc p (u2 - u1) := by rw [fc_mod, fc_mul]
      have eH3 : fc p ((u2 - u1) * ((u2 - u1) * (u2 - u1) % (p : Int)) % (p : Int)) = fc p (u2 - u1) * (fc p (u2 - u1) * fc p (u2 - u1)) := by rw [fc_mod, fc_mul, eH2]
      have eV : fc p (u1 * ((u2 - u1) * (u2 - u1) % (p : Int)) % (p : Int)) = fc p T.1 * (fc p U.2.2 * fc p U.2.2) * (fc p (u2 - u1) * fc p (u2 - u1)) := by rw [fc_mod, fc_mul, eH2, eU1]
      have eX : fc p (((s2 - s1) ^ 2 - (u2 - u1) * ((u2 - u1) * (u2 - u1) % (p : Int)) % (p : Int) - 2 * (u1 * ((u2 - u1) * (u2 - u1) % (p : Int)) % (p : Int))) % (p : Int)) = (l * l - x1 - x2) * ((fc p (u2 - u1) * fc p T.2.2 * fc p U.2.2) * (fc p (u2 - u1) * fc p T.2.2 * fc p U.2.2)) := by
        rw [fc_mod, fc_sub, fc_sub, fsq, fc_sub s2, eS1, eS2, eH3, fc_mul 2, eV, fc_two]
        exact add1 hx hy hx' hy' q.c eH
      refine ⟨red_mod _, ?_, ?_, ?_⟩
      · show fc p ((u2 - u1) * T.2.2 * U.2.2 % (p : Int)) ≠ 0
        rw [eZ]
        exact fin_ne_mul hp (fin_ne_mul hp hH hz) hz'
      · show fc p (((s2 - s1) ^ 2 - (u2 - u1) * ((u2 - u1) * (u2 - u1) % (p : Int)) % (p : Int) - 2 * (u1 * ((u2 - u1) * (u2 - u1) % (p : Int)) % (p : Int))) % (p : Int)) = x4 * (fc p ((u2 - u1) * T.2.2 * U.2.2 % (p : Int)) * fc p ((u2 - u1) * T.2.2 * U.2.2 % (p : Int)))
        rw [eX, eZ, q.x]
      · show fc p (((s2 - s1) * (u1 * ((u2 - u1) * (u2 - u1) % (p : Int)) % (p : Int) - ((s2 - s1) ^ 2 - (u2 - u1) * ((u2 - u1) * (u2 - u1) % (p : Int)) % (p : Int) - 2 * (u1 * ((u2 - u1) * (u2 - u1) % (p : Int)) % (p : Int))) % (p : Int)) - s1 * ((u2 - u1) * ((u2 - u1) * (u2 - u1) % (p : Int)) % (p : Int))) % (p : Int)) = y4 * (fc p ((u2 - u1) * T.2.2 * U.2.2 % (p : Int)) * fc p ((u2 - u1) * T.2.2 * U.2.2 % (p : Int)) * fc p ((u2 - u1) * T.2.2 * U.2.2 % (p : Int)))
        rw [fc_mod, fc_sub, fc_mul, fc_mul s1, fc_sub s2, fc_sub (u1 * _ % _), eX, eV, eH3, eS1, eS2, eZ, q.y, q.x]
        exact add2 hx hy hx' hy' q.c eH rfl
end

section
variable {F : Type} [Lean.Grind.CommRing F] [DecidableEq F]
/-- n times a place -/
def psm (inv : F → F) (a : F) : Nat → Pt F → Pt F
  | 0, _ => none
  | n + 1, P => padd inv a (psm inv a n P) P
variable {inv : F → F} {a b : F}
theorem psm_on (C : Cv inv a b) {P : Pt F} (hP : On a b P) : ∀ n, On a b (psm inv a n P)
  | 0 => trivial
  | n + 1 => padd_on C (psm_on C hP n) hP
theorem psm_one (P : Pt F) : psm inv a 1 P = P := rfl
theorem psm_none : ∀ n, psm inv a n none = none
  | 0 => rfl
  | n + 1 => by show padd inv a (psm inv a n none) none = none; rw [padd_none_r, psm_none n]
theorem psm_add (C : Cv inv a b) {P : Pt F} (hP : On a b P) (m : Nat) : ∀ n, psm inv a (m + n) P = padd inv a (psm inv a m P) (psm inv a n P)
  | 0 => (padd_none_r _).symm
  | n + 1 => by
    show padd inv a (psm inv a (m + n) P) P = padd inv a (psm inv a m P) (padd inv a (psm inv a n P) P)
    rw [psm_add C hP m n, padd_assoc C (psm_on C hP m) (psm_on C hP n) hP]
theorem psm_mul (C : Cv inv a b) {P : Pt F} (hP : On a b P) (m : Nat) : ∀ n, psm inv a (m * n) P = psm inv a n (psm inv a m P)
  | 0 => rfl
  | n + 1 => by
    rw [Nat.mul_succ, psm_add C hP, psm_mul C hP m n]; rfl
theorem psm_padd (C : Cv inv a b) {P Q : Pt F} (hP : On a b P) (hQ : On a b Q) : ∀ n, psm inv a n (padd inv a P Q) = padd inv a (psm inv a n P) (psm inv a n Q)
  | 0 => rfl
  | n + 1 => by
    have h1 := psm_on C hP n
    have h2 := psm_on C hQ n
    show padd inv a (psm inv a n (padd inv a P Q)) (padd inv a P Q) = padd inv a (padd inv a (psm inv a n P) P) (padd inv a (psm inv a n Q) Q)
    rw [psm_padd C hP hQ n, padd_assoc C h1 h2 (padd_on C hP hQ), padd_assoc C h1 hP (padd_on C h2 hQ), ← padd_assoc C h2 hP hQ, padd_comm C h2 hP, padd_assoc C hP h2 hQ]
/-- order: N times any place is none -/
def Tor (inv : F → F) (a b : F) (N : Nat) : Prop := ∀ P, On a b P → psm inv a N P = none
theorem psm_mod (C : Cv inv a b) {N : Nat} (hT : Tor inv a b N) {P : Pt F} (hP : On a b P) (n : Nat) : psm inv a (n % N) P = psm inv a n P := by
  have e : n = N * (n / N) + n % N := (Nat.div_add_mod n N).symm
  have h : psm inv a n P = psm inv a (N * (n / N) + n % N) P := by rw [← e]
  rw [h, psm_add C hP, psm_mul C hP, hT P hP, psm_none, padd_none_l]
/-- a whole number of times, by its rest -/
def zsm (inv : F → F) (a : F) (N : Nat) (k : Int) (P : Pt F) : Pt F := psm inv a (k % (N : Int)).toNat P
theorem zsm_on (C : Cv inv a b) {N : Nat} {P : Pt F} (hP : On a b P) (k : Int) : On a b (zsm inv a N k P) := psm_on C hP _
theorem zsm_congr {N : Nat} {k j : Int} (h : k % (N : Int) = j % (N : Int)) (P : Pt F) : zsm inv a N k P = zsm inv a N j P := by unfold zsm; rw [h]
theorem zsm_nat (C : Cv inv a b) {N : Nat} (hT : Tor inv a b N) {P : Pt F} (hP : On a b P) (n : Nat) : zsm inv a N (n : Int) P = psm inv a n P := by
  unfold zsm
  rw [← Int.natCast_emod, Int.toNat_natCast, psm_mod C hT hP]
theorem zsm_of_nat (C : Cv inv a b) {N : Nat} (hT : Tor inv a b N) {P : Pt F} (hP : On a b P) {k : Int} {n : Nat} (h : k % (N : Int) = (n : Int) % (N : Int)) : zsm inv a N k P = psm inv a n P := by
  rw [zsm_congr h, zsm_nat C hT hP]
theorem zrest {N : Nat} (hN : 0 < N) (k : Int) : (((k % (N : Int)).toNat : Nat) : Int) = k % (N : Int) := Int.toNat_of_nonneg (Int.emod_nonneg k (by omega))
theorem zsm_add (C : Cv inv a b) {N : Nat} (hN : 0 < N) (hT : Tor inv a b N) {P : Pt F} (hP : On a b P) (k j : Int) : zsm inv a N (k + j) P = padd inv a (zsm inv a N k P) (zsm inv a N j P) := by
  rw [zsm_of_nat C hT hP (n := (k % (N : Int)).toNat + (j % (N : Int)).toNat), psm_add C hP]
  · rfl
  · rw [Int.natCast_add, zrest hN, zrest hN, ← Int.add_emod]
theorem zsm_mul (C : Cv inv a b) {N : Nat} (hN : 0 < N) (hT : Tor inv a b N) {P : Pt F} (hP : On a b P) (k j : Int) : zsm inv a N (k * j) P = zsm inv a N j (zsm inv a N k P) := by
  rw [zsm_of_nat C hT hP (n := (k % (N : Int)).toNat * (j % (N : Int)).toNat), psm_mul C hP]
  · rfl
  · rw [Int.natCast_mul, zrest hN, zrest hN, ← Int.mul_emod]
theorem zsm_padd (C : Cv inv a b) {N : Nat} {P Q : Pt F} (hP : On a b P) (hQ : On a b Q) (k : Int) : zsm inv a N k (padd inv a P Q) = padd inv a (zsm inv a N k P) (zsm inv a N k Q) := psm_padd C hP hQ _
theorem zsm_one (C : Cv inv a b) {N : Nat} (hT : Tor inv a b N) {P : Pt F} (hP : On a b P) : zsm inv a N 1 P = P := zsm_nat C hT hP 1
theorem pneg_uniq (C : Cv inv a b) {P Q : Pt F} (hP : On a b P) (hQ : On a b Q) (h : padd inv a P Q = none) : Q = pneg P := by
  have := padd_cancel' C hQ hP
  rw [h, padd_none_r] at this
  exact this.symm
theorem zsm_neg (C : Cv inv a b) {N : Nat} (hN : 0 < N) (hT : Tor inv a b N) {P : Pt F} (hP : On a b P) (k : Int) : zsm inv a N (-k) P = pneg (zsm inv a N k P) := by
  refine pneg_uniq C (zsm_on C hP k) (zsm_on C hP _) ?_
  rw [← zsm_add C hN hT hP, Int.add_right_neg]
  unfold zsm
  rw [Int.zero_emod]; rfl
theorem zsm_none {N : Nat} (k : Int) : zsm inv a N k none = none := psm_none _
end
section
variable {p : Nat} [NeZero p] {b : Fin p}
theorem rep_mulN (hp : Prm p) {A : Int} (C : Cv finv (fc p A) b) {T : Tri} {P : Pt (Fin p)} (hP : On (fc p A) b P) (h : Rep p T P) (n : Nat) : Rep p (jmulN p A T n) (psm finv (fc p A) n P) := by
  induction n using Nat.strongRecOn with
  | ind n ih =>
    rw [jmulN]
    by_cases h0 : n = 0
    · rw [if_pos h0, h0]; exact ⟨rfl, rfl⟩
    rw [if_neg h0]
    by_cases h1 : n = 1
    · rw [if_pos h1, h1]; exact h
    rw [if_neg h1]
    have hd := rep_dbl hp C (psm_on C hP (n / 2)) (ih (n / 2) (by omega))
    rw [← psm_add C hP] at hd
    by_cases h2 : n % 2 = 0
    · rw [if_pos h2]
      have e : n / 2 + n / 2 = n := by omega
      rw [e] at hd
      exact hd
    · rw [if_neg h2]
      have e : n / 2 + n / 2 + 1 = n := by omega
      have hh := rep_add hp C (psm_on C hP _) hP hd h
      have e2 : padd finv (fc p A) (psm finv (fc p A) (n / 2 + n / 2) P) P = psm finv (fc p A) (n / 2 + n / 2 + 1) P := rfl
      rw [e2, e] at hh
      exact hh
theorem rep_mul (hp : Prm p) {A : Int} (C : Cv finv (fc p A) b) {N : Nat} {T : Tri} {P : Pt (Fin p)} (hP : On (fc p A) b P) (h : Rep p T P) (n : Int) : Rep p (jmul p N A T n) (zsm finv (fc p A) N n P) := by
  unfold jmul
  by_cases h0 : T.2.1 = 0
  · rw [if_pos h0, (rep_y0 hp hP C h).mp h0, zsm_none]
    exact ⟨rfl, rfl⟩
  · rw [if_neg h0]
    exact rep_mulN hp C hP h _
end

/-- low and high have no common divisor but units -/
def Cop (x y : Int) : Prop := ∀ d : Int, d ∣ x → d ∣ y → d ∣ 1
theorem egl_inv {n a : Int} : ∀ (k : Nat) (lm hm low high : Int), low.toNat ≤ k → 0 ≤ low → low < high → 1 < high → n ∣ lm * a - low → n ∣ hm * a - high → Cop low high → n ∣ egl lm hm low high * a - 1 := by
  intro k
  induction k with
  | zero =>
    intro lm hm low high hk h0 h1 h2 d1 d2 hc
    have e : low = 0 := by omega
    subst e
    have := hc high (Int.dvd_zero high) (Int.dvd_refl high)
    have := Int.le_of_dvd (by decide) this
    omega
  | succ k ih =>
    intro lm hm low high hk h0 h1 h2 d1 d2 hc
    rw [egl.eq_def]
    by_cases hl : low > 1
    · rw [if_pos hl]
      have q1 := Int.emod_lt_of_pos high (show (0 : Int) < low by omega)
      have q2 := Int.mul_ediv_add_emod high low
      have q3 := Int.emod_nonneg high (show low ≠ 0 by omega)
      refine ih _ _ _ _ (by omega) (by omega) (by omega) hl ?_ d1 ?_
      · have e : (hm - lm * (high / low)) * a - (high - low * (high / low)) = (hm * a - high) - (lm * a - low) * (high / low) := by
          generalize high / low = q
          grind
        rw [e]
        exact Int.dvd_sub d2 (Int.dvd_mul_of_dvd_left d1)
      · intro d e1 e2
        refine hc d e2 ?_
        have e : high = (high - low * (high / low)) + low * (high / low) := by omega
        rw [e]
        exact Int.dvd_add e1 (Int.dvd_mul_of_dvd_left e2)
    · rw [if_neg hl]
      have h3 : low = 0 ∨ low = 1 := by omega
      rcases h3 with e | e
      · subst e
        have := hc high (Int.dvd_zero high) (Int.dvd_refl high)
        have := Int.le_of_dvd (by decide) this
        omega
      · subst e; exact d1
theorem cop_prime {N : Nat} (hN : Prm N) {x : Int} (h0 : 0 < x) (h1 : x < (N : Int)) : Cop x (N : Int) := by
  intro d e1 e2
  have h : d.natAbs ∣ N := by
    have := Int.natAbs_dvd_natAbs.mpr e2
    simpa using this
  rcases hN.2 _ h with k | k
  · exact Int.natAbs_dvd.mp (by rw [k]; exact Int.dvd_refl _)
  · have h2 : (N : Int) ∣ x := by
      rw [← k]; exact Int.natAbs_dvd.mpr e1
    have := Int.le_of_dvd h0 h2
    omega
theorem pinv_spec {N : Nat} [NeZero N] (hN : Prm N) {x : Int} (h : fc N x ≠ 0) : fc N (pinv x N) * fc N x = 1 := by
  have hx : x % (N : Int) ≠ 0 := by
    intro e
    apply h
    rw [← fc_zero (p := N), fc_eq, e, Int.zero_emod]
  have hn1 : (1 : Int) < (N : Int) := by have := hN.1; omega
  have r0 := Int.emod_nonneg x (show (N : Int) ≠ 0 by omega)
  have r1 := Int.emod_lt_of_pos x (show (0 : Int) < (N : Int) by omega)
  have hx0 : x ≠ 0 := fun e => hx (by rw [e, Int.zero_emod])
  have key := egl_inv (n := (N : Int)) (a := x) (x % (N : Int)).toNat 1 0 (x % (N : Int)) (N : Int) (Nat.le_refl _) r0 r1 hn1
    (by rw [Int.one_mul]; exact Int.dvd_self_sub_emod)
    (by rw [Int.zero_mul, Int.zero_sub]; exact Int.dvd_neg.mpr (Int.dvd_refl _))
    (cop_prime hN (by omega) r1)
  unfold pinv
  rw [if_neg hx0, fc_mod, ← fc_mul, ← fc_one, fc_eq]
  exact Int.emod_eq_emod_iff_emod_sub_eq_zero.mpr (Int.emod_eq_zero_of_dvd key)
theorem pinv_red {N : Nat} [NeZero N] (x : Int) : Red N (pinv x N) := by
  unfold pinv
  split
  · exact ⟨Int.le_refl _, npos⟩
  · exact red_mod _

section
variable {F : Type} [Lean.Grind.CommRing F] [DecidableEq F] {inv : F → F} {a b : F}
def lsum (inv : F → F) (a : F) (l : List (Pt F)) : Pt F := l.foldr (padd inv a) none
theorem lsum_on (C : Cv inv a b) : ∀ {l : List (Pt F)}, (∀ P ∈ l, On a b P) → On a b (lsum inv a l)
  | [], _ => trivial
  | P :: l, h => padd_on C (h P List.mem_cons_self) (lsum_on C fun Q hQ => h Q (List.mem_cons_of_mem _ hQ))
theorem lsum_perm (C : Cv inv a b) {l l' : List (Pt F)} (h : l.Perm l') : (∀ P ∈ l, On a b P) → lsum inv a l = lsum inv a l' := by
  induction h with
  | nil => intro _; rfl
  | cons x h ih => intro hl; show padd inv a x _ = padd inv a x _; exact congrArg _ (ih fun Q hQ => hl Q (List.mem_cons_of_mem _ hQ))
  | swap x y l =>
    intro hl
    have hx := hl x (by simp)
    have hy := hl y (by simp)
    have hs : On a b (lsum inv a l) := lsum_on C fun Q hQ => hl Q (by simp [hQ])
    show padd inv a y (padd inv a x (lsum inv a l)) = padd inv a x (padd inv a y (lsum inv a l))
    rw [← padd_assoc C hy hx hs, ← padd_assoc C hx hy hs, padd_comm C hy hx]
  | trans h1 h2 i1 i2 => intro hl; exact (i1 hl).trans (i2 fun Q hQ => hl Q (h1.mem_iff.mpr hQ))
theorem lsum_map (C : Cv inv a b) {Q : Pt F} (hQ : On a b Q) : ∀ {l : List (Pt F)}, (∀ P ∈ l, On a b P) → lsum inv a (l.map (padd inv a Q)) = padd inv a (psm inv a l.length Q) (lsum inv a l)
  | [], _ => rfl
  | P :: l, h => by
    have hP := h P List.mem_cons_self
    have hl : ∀ R ∈ l, On a b R := fun R hR => h R (List.mem_cons_of_mem _ hR)
    have hs := lsum_on C hl
    have hk := psm_on C hQ l.length
    show padd inv a (padd inv a Q P) (lsum inv a (l.map _)) = padd inv a (padd inv a (psm inv a l.length Q) Q) (padd inv a P (lsum inv a l))
    rw [lsum_map C hQ hl, padd_assoc C hQ hP (padd_on C hk hs), ← padd_assoc C hP hk hs, padd_comm C hP hk, padd_assoc C hk hP hs, ← padd_assoc C hQ hk (padd_on C hP hs), padd_comm C hQ hk]
/-- a list of just the places: that many times any place is none -/
theorem tor_of_list (C : Cv inv a b) {l : List (Pt F)} (hn : l.Nodup) (hm : ∀ P, P ∈ l ↔ On a b P) : Tor inv a b l.length := by
  intro Q hQ
  have hl : ∀ P ∈ l, On a b P := fun P hP => (hm P).mp hP
  have hinj : ∀ P ∈ l, ∀ R ∈ l, padd inv a Q P = padd inv a Q R → P = R := by
    intro P hP R hR e
    rw [← padd_cancel' C (hl P hP) hQ, ← padd_cancel' C (hl R hR) hQ, e]
  have hnd : (l.map (padd inv a Q)).Nodup := by
    rw [List.nodup_iff_pairwise_ne] at hn ⊢
    rw [List.pairwise_map]
    exact hn.imp_of_mem fun hP hR hne e => hne (hinj _ hP _ hR e)
  have hp : (l.map (padd inv a Q)).Perm l := by
    refine perm_of_nodup_subset hnd (fun P hP => ?_) (by simp)
    obtain ⟨R, hR, e⟩ := List.mem_map.mp hP
    rw [← e]
    exact (hm _).mpr (padd_on C hQ (hl R hR))
  have h1 := lsum_perm C hp (fun P hP => (hm P).mp (hp.mem_iff.mp hP))
  rw [lsum_map C hQ hl] at h1
  have hs := lsum_on C hl
  have h2 := padd_cancel C (psm_on C hQ l.length) hs
  rw [h1, padd_neg] at h2
  exact h2.symm
theorem psm_mod1 (C : Cv inv a b) {N : Nat} {P : Pt F} (hP : On a b P) (h : psm inv a N P = none) (n : Nat) : psm inv a (n % N) P = psm inv a n P := by
  have e : n = N * (n / N) + n % N := (Nat.div_add_mod n N).symm
  have h' : psm inv a n P = psm inv a (N * (n / N) + n % N) P := by rw [← e]
  rw [h', psm_add C hP, psm_mul C hP, h, psm_none, padd_none_l]
/-- the order of a place is no proper part of a prime -/
theorem order_dvd (C : Cv inv a b) {N : Nat} [NeZero N] (hN : Prm N) {P : Pt F} (hP : On a b P) (h0 : P ≠ none) (h : psm inv a N P = none) {m : Nat} (hm : psm inv a m P = none) : N ∣ m := by
  by_cases hd : N ∣ m
  · exact hd
  · exfalso
    have hne : fc N (m : Int) ≠ 0 := by
      intro e
      rw [← fc_zero (p := N), fc_eq, Int.zero_emod] at e
      exact hd (Int.natCast_dvd_natCast.mp (Int.dvd_of_emod_eq_zero e))
    have hi := fin_inv hN _ hne
    have e1 : (m * (finv (fc N (m : Int))).val) % N = 1 := by
      have h1 : (fc N (m : Int) * finv (fc N (m : Int))).val = 1 := by
        rw [hi]
        show 1 % N = 1
        exact Nat.mod_eq_of_lt hN.1
      rw [Fin.val_mul] at h1
      have h2 : (fc N (m : Int)).val = m % N := by
        have := fc_val (p := N) (m : Int)
        rw [← Int.natCast_emod] at this
        omega
      rw [h2, Nat.mod_mul_mod] at h1
      exact h1
    have h3 := psm_mod1 C hP h (m * (finv (fc N (m : Int))).val)
    rw [e1, psm_mul C hP, hm, psm_none] at h3
    exact h0 h3
end

section
variable {p : Nat} [NeZero p] {a b : Fin p}
/-- the heights over x -/
def ysOf (a b x : Fin p) : List (Fin p) := (List.finRange p).filter fun y => decide (y * y = x * x * x + a * x + b)
def ptsOf (a b : Fin p) : List (Pt (Fin p)) := none :: (List.finRange p).flatMap fun x => (ysOf a b x).map fun y => some (x, y)
theorem mem_ys {x y : Fin p} : y ∈ ysOf a b x ↔ y * y = x * x * x + a * x + b := by
  unfold ysOf
  rw [List.mem_filter]
  simp [List.mem_finRange]
theorem mem_pts (P : Pt (Fin p)) : P ∈ ptsOf a b ↔ On a b P := by
  unfold ptsOf
  match P with
  | none => simp [On]
  | some (x, y) =>
    rw [List.mem_cons]
    constructor
    · rintro (h | h)
      · nomatch h
      · obtain ⟨x', _, h⟩ := List.mem_flatMap.mp h
        obtain ⟨y', hy, e⟩ := List.mem_map.mp h
        have e2 : x' = x ∧ y' = y := by simpa using e
        rw [← e2.1, ← e2.2]
        exact mem_ys.mp hy
    · intro h
      exact .inr (List.mem_flatMap.mpr ⟨x, List.mem_finRange x, List.mem_map.mpr ⟨y, mem_ys.mpr h, rfl⟩⟩)
theorem ys_nodup (x : Fin p) : (ysOf a b x).Nodup := by
  have h := List.nodup_finRange p
  unfold ysOf
  rw [List.nodup_iff_pairwise_ne] at h ⊢
  exact h.filter _
theorem pts_nodup : (ptsOf a b).Nodup := by
  unfold ptsOf
  rw [List.nodup_cons]
  constructor
  · intro h
    obtain ⟨x, _, h⟩ := List.mem_flatMap.mp h
    obtain ⟨y, _, e⟩ := List.mem_map.mp h
    nomatch e
  · have h := List.nodup_finRange p
    rw [List.nodup_iff_pairwise_ne] at h ⊢
    rw [List.pairwise_flatMap]
    refine ⟨fun x _ => ?_, ?_⟩
    · have := ys_nodup (a := a) (b := b) x
      rw [List.nodup_iff_pairwise_ne] at this
      rw [List.pairwise_map]
      exact this.imp fun hne e => hne (by simpa using e)
    · refine h.imp fun {x x'} hne => ?_
      intro P hP Q hQ e
      obtain ⟨y, _, e1⟩ := List.mem_map.mp hP
      obtain ⟨y', _, e2⟩ := List.mem_map.mp hQ
      rw [← e1, ← e2] at e
      have : x = x' ∧ y = y' := by simpa using e
      exact hne this.1
theorem ys_len (hp : Prm p) (C : Cv finv a b) (x : Fin p) : (ysOf a b x).length = 0 ∨ (ysOf a b x).length = 2 := by
  by_cases h0 : (ysOf a b x) = []
  · left; rw [h0]; rfl
  · right
    obtain ⟨y, hy⟩ := List.exists_mem_of_ne_nil _ h0
    have hy' := mem_ys.mp hy
    have hne : y ≠ 0 := on_yne C (x := x) hy'
    have hneg : -y ∈ ysOf a b x := mem_ys.mpr (by rw [← hy']; clear hy hy' hne h0; grind)
    have hyn : y ≠ -y := fun e => hne (C.D.two _ (by clear hy hy' hne h0 hneg; grind))
    have h1 : [y, -y].Nodup := by simp [hyn]
    have hsub : ∀ z ∈ ysOf a b x, z ∈ [y, -y] := by
      intro z hz
      have hz' := mem_ys.mp hz
      have q : (z - y) * (z + y) = 0 := by clear hy hz hne h0 hneg hyn h1; grind
      rcases fin_dom hp _ _ q with k | k
      · have := lin3 k; simp [this]
      · have : z = -y := by clear hy hz hne h0 hneg hyn h1 hy' hz' q; grind
        simp [this]
    have hle1 : (ysOf a b x).length ≤ 2 := by
      by_cases hc : 2 ≤ (ysOf a b x).length
      · have := (perm_of_nodup_subset (ys_nodup x) hsub (by simpa using hc)).length_eq
        simp at this; omega
      · omega
    have hle2 : 2 ≤ (ysOf a b x).length := by
      by_cases hc : (ysOf a b x).length ≤ 2
      · have := (perm_of_nodup_subset h1 (fun z hz => by
          rcases List.mem_cons.mp hz with e | e
          · rw [e]; exact hy
          · rw [List.mem_singleton.mp e]; exact hneg) (by simpa using hc)).length_eq
        simp at this; omega
      · omega
    omega
theorem flat_len {α β : Type} {f : α → List β} (hf : ∀ x, (f x).length = 0 ∨ (f x).length = 2) : ∀ l : List α, ∃ k, (l.flatMap f).length = 2 * k ∧ k ≤ l.length
  | [] => ⟨0, rfl, Nat.le_refl _⟩
  | x :: l => by
    obtain ⟨k, e, hk⟩ := flat_len hf l
    rw [List.flatMap_cons, List.length_append, e, List.length_cons]
    rcases hf x with h | h
    · exact ⟨k, by omega, by omega⟩
    · exact ⟨k + 1, by omega, by omega⟩
theorem pts_len (hp : Prm p) (C : Cv finv a b) : ∃ k, (ptsOf a b).length = 2 * k + 1 ∧ k ≤ p := by
  obtain ⟨k, e, hk⟩ := flat_len (f := fun x => (ysOf a b x).map fun y => (some (x, y) : Pt (Fin p))) (fun x => by
    rw [List.length_map]; exact ys_len hp C x) (List.finRange p)
  refine ⟨k, ?_, by simpa using hk⟩
  unfold ptsOf
  rw [List.length_cons, e]
theorem tor_pts (C : Cv finv a b) : Tor finv a b (ptsOf a b).length := tor_of_list C pts_nodup mem_pts
/-- a prime order that is more than a third of 2p + 1 is the number of the points -/
theorem tor_of_order (hp : Prm p) (C : Cv finv a b) {N : Nat} [NeZero N] (hN : Prm N) {P : Pt (Fin p)} (hP : On a b P) (h0 : P ≠ none) (h : psm finv a N P = none) (h3 : 2 * p + 1 < 3 * N) : Tor finv a b N := by
  obtain ⟨k, e, hk⟩ := pts_len hp C
  have hT := tor_pts C
  obtain ⟨q, hq⟩ := order_dvd C hN hP h0 h (hT P hP)
  have hq1 : q = 1 := by
    have h4 : N * q = 2 * k + 1 := by rw [← hq, e]
    have h5 : q < 3 := by
      by_cases hc : q < 3
      · exact hc
      · have : N * 3 ≤ N * q := Nat.mul_le_mul_left N (by omega)
        omega
    have h6 : q ≠ 0 := fun z => by rw [z] at h4; omega
    have h7 : q ≠ 2 := fun z => by rw [z] at h4; omega
    omega
  rw [hq1, Nat.mul_one] at hq
  rw [← hq]
  exact hT
end

section
variable {p : Nat} [NeZero p] {b : Fin p}
/-- a place as the programs write it -/
def flatP : Pt (Fin p) → Int × Int
  | none => (0, 0)
  | some (x, y) => ((x.val : Int), (y.val : Int))
theorem val_of_fc {x : Fin p} {w : Int} (h : fc p w = x) : w % (p : Int) = (x.val : Int) := by rw [← fc_val, h]
theorem fc_of_val (x : Fin p) : fc p (x.val : Int) = x := by
  apply Fin.ext
  have h := fc_val (p := p) (x.val : Int)
  rw [Int.emod_eq_of_lt (by omega) (by have := x.isLt; omega)] at h
  omega
theorem fromJ_rep (hp : Prm p) {T : Tri} {P : Pt (Fin p)} (h : Rep p T P) : fromJ p T = flatP P := by
  match P, h with
  | none, h =>
    show (T.1 * pinv T.2.2 p ^ 2 % (p : Int), T.2.1 * pinv T.2.2 p ^ 3 % (p : Int)) = (0, 0)
    rw [h.1, h.2, Int.zero_mul, Int.zero_mul, Int.zero_emod]
  | some (x, y), h =>
    obtain ⟨hr, hz, hx, hy⟩ := h
    have hi := pinv_spec hp hz
    have e1 : fc p (T.1 * pinv T.2.2 p ^ 2) = x := by
      rw [fc_mul, fsq, hx]
      have e : x * (fc p T.2.2 * fc p T.2.2) * (fc p (pinv T.2.2 p) * fc p (pinv T.2.2 p)) = x * ((fc p (pinv T.2.2 p) * fc p T.2.2) * (fc p (pinv T.2.2 p) * fc p T.2.2)) := by clear hi hx hy hz hr; grind
      rw [e, hi]; clear hi hx hy hz hr e; grind
    have e2 : fc p (T.2.1 * pinv T.2.2 p ^ 3) = y := by
      rw [fc_mul, fcube, hy]
      have e : y * (fc p T.2.2 * fc p T.2.2 * fc p T.2.2) * (fc p (pinv T.2.2 p) * fc p (pinv T.2.2 p) * fc p (pinv T.2.2 p)) = y * ((fc p (pinv T.2.2 p) * fc p T.2.2) * (fc p (pinv T.2.2 p) * fc p T.2.2) * (fc p (pinv T.2.2 p) * fc p T.2.2)) := by clear hi hx hy hz hr e1; grind
      rw [e, hi]; clear hi hx hy hz hr e e1; grind
    show (T.1 * pinv T.2.2 p ^ 2 % (p : Int), T.2.1 * pinv T.2.2 p ^ 3 % (p : Int)) = ((x.val : Int), (y.val : Int))
    rw [val_of_fc e1, val_of_fc e2]
theorem rep_affine (hp : Prm p) {x y : Int} (hy : Red p y) : Rep p (x, y, 1) (some (fc p x, fc p y)) := by
  refine ⟨hy, ?_, ?_, ?_⟩
  · show fc p 1 ≠ 0
    intro e
    have := (fc_zero_iff (p := p) (x := 1) (by decide) (by have := hp.1; omega)).mp e
    omega
  · show fc p x = fc p x * (fc p 1 * fc p 1)
    rw [fc_one]; grind
  · show fc p y = fc p y * (fc p 1 * fc p 1 * fc p 1)
    rw [fc_one]; grind
theorem pmul_spec (hp : Prm p) {A : Int} (C : Cv finv (fc p A) b) {N : Nat} {x y : Int} (hy : Red p y) (hP : On (fc p A) b (some (fc p x, fc p y))) (n : Int) :
    pmul p N A x y n = flatP (zsm finv (fc p A) N n (some (fc p x, fc p y))) :=
  fromJ_rep hp (rep_mul hp C hP (rep_affine hp hy) n)
/-- the curve's own conditions, as ints -/
theorem cv_of (hp : Prm p) (h2 : p ≠ 2) {A B : Int} (hroot : ∀ x : Fin p, x * x * x + fc p A * x + fc p B ≠ 0) : Cv finv (fc p A) (fc p B) where
  D := ⟨fin_dom hp, fun x h => by
    rcases fin_dom hp _ _ h with k | k
    · exfalso
      have e : fc p 2 = 0 := by rw [fc_two]; exact k
      have := (fc_zero_iff (p := p) (x := 2) (by decide) (by have := hp.1; omega)).mp e
      omega
    · exact k⟩
  inv := fin_inv hp
  root := hroot
end

/-- the first law's own sum of two places -/
def lsumI (P A : Int) : Option (Int × Int) → Option (Int × Int) → Option (Int × Int)
  | none, q => q
  | some r, none => some r
  | some r, some q =>
    if r.1 = q.1 ∧ (r.2 + q.2) % P = 0 then none else
      let m := if r = q then (3 * r.1 * r.1 + A) * ((2 * r.2 % P) ^ (P - 2).toNat % P) else (q.2 - r.2) * (((q.1 - r.1) % P) ^ (P - 2).toNat % P)
      some ((m * m - r.1 - q.1) % P, (m * (r.1 - (m * m - r.1 - q.1) % P) - r.2) % P)
def ltI (P A : Int) (n : Nat) (told point : Option (Int × Int)) : Option (Int × Int) :=
  if n = 0 then told else ltI P A (n / 2) (if n % 2 = 1 then lsumI P A told point else told) (lsumI P A point point)
termination_by n
decreasing_by omega

section
variable {p : Nat} [NeZero p] {b : Fin p}
def toF (p : Nat) [NeZero p] : Option (Int × Int) → Pt (Fin p)
  | none => none
  | some r => some (fc p r.1, fc p r.2)
def RedP (p : Nat) : Option (Int × Int) → Prop
  | none => True
  | some r => Red p r.1 ∧ Red p r.2
theorem red_inj {x y : Int} (hx : Red p x) (hy : Red p y) (h : fc p x = fc p y) : x = y := by
  rw [fc_eq, Int.emod_eq_of_lt hx.1 hx.2, Int.emod_eq_of_lt hy.1 hy.2] at h
  exact h
theorem fc_inv {w : Int} (hp : Prm p) : fc p ((w % (p : Int)) ^ ((p : Int) - 2).toNat % (p : Int)) = finv (fc p w) := by
  rw [fc_mod, fc_pow, fc_mod]
  unfold finv
  have := hp.1
  rw [show ((p : Int) - 2).toNat = p - 2 by omega]
theorem lsumI_ok (hp : Prm p) {A : Int} (_C : Cv finv (fc p A) b) {S T : Option (Int × Int)} (hS : RedP p S) (hT : RedP p T) (oS : On (fc p A) b (toF p S)) (oT : On (fc p A) b (toF p T)) :
    RedP p (lsumI p A S T) ∧ toF p (lsumI p A S T) = padd finv (fc p A) (toF p S) (toF p T) := by
  match S, T, hS, hT, oS, oT with
  | none, T, _, hT, _, _ => exact ⟨hT, rfl⟩
  | some r, none, hS, _, _, _ => exact ⟨hS, rfl⟩
  | some (x1, y1), some (x2, y2), hS, hT, oS, oT =>
    have ex : x1 = x2 ↔ fc p x1 = fc p x2 := ⟨fun e => by rw [e], fun e => red_inj hS.1 hT.1 e⟩
    have ey : (y1 + y2) % (p : Int) = 0 ↔ fc p y1 + fc p y2 = 0 := by
      rw [← fc_add, ← fc_zero (p := p), fc_eq, Int.zero_emod]
    unfold lsumI
    dsimp only
    by_cases h0 : x1 = x2 ∧ (y1 + y2) % (p : Int) = 0
    · rw [if_pos h0]
      refine ⟨trivial, ?_⟩
      exact (padd_inf (inv := finv) ⟨ex.mp h0.1, ey.mp h0.2⟩).symm
    · rw [if_neg h0]
      have h0' : ¬ (fc p x1 = fc p x2 ∧ fc p y1 + fc p y2 = 0) := fun k => h0 ⟨ex.mpr k.1, ey.mpr k.2⟩
      have em : fc p (if (x1, y1) = (x2, y2) then (3 * x1 * x1 + A) * ((2 * y1 % (p : Int)) ^ ((p : Int) - 2).toNat % (p : Int)) else (y2 - y1) * (((x2 - x1) % (p : Int)) ^ ((p : Int) - 2).toNat % (p : Int)))
          = if fc p x1 = fc p x2 then (3 * (fc p x1 * fc p x1) + fc p A) * finv (2 * fc p y1) else (fc p y2 - fc p y1) * finv (fc p x2 - fc p x1) := by
        by_cases e : x1 = x2
        · have e2 : fc p y1 = fc p y2 := (on_same _C oS oT (ex.mp e)).resolve_right fun k => h0' ⟨ex.mp e, k⟩
          have e3 : y1 = y2 := red_inj hS.2 hT.2 e2
          rw [if_pos (by rw [e, e3]), if_pos (ex.mp e), fc_mul, fc_inv hp, fc_add, fc_mul, fc_mul, fc_mul, fc_three, fc_two]
          have e4 : (3 : Fin p) * fc p x1 * fc p x1 = 3 * (fc p x1 * fc p x1) := by clear ey ex h0 h0' e e2 e3; grind
          rw [e4]
        · rw [if_neg (fun k => e (by simpa using congrArg Prod.fst k)), if_neg (fun k => e (ex.mpr k)), fc_mul, fc_inv hp, fc_sub, fc_sub]
      generalize (if (x1, y1) = (x2, y2) then (3 * x1 * x1 + A) * ((2 * y1 % (p : Int)) ^ ((p : Int) - 2).toNat % (p : Int)) else (y2 - y1) * (((x2 - x1) % (p : Int)) ^ ((p : Int) - 2).toNat % (p : Int))) = m at em ⊢
      refine ⟨⟨red_mod _, red_mod _⟩, ?_⟩
      show some (fc p ((m * m - x1 - x2) % (p : Int)), fc p ((m * (x1 - (m * m - x1 - x2) % (p : Int)) - y1) % (p : Int))) = padd finv (fc p A) (some (fc p x1, fc p y1)) (some (fc p x2, fc p y2))
      dsimp only [padd]
      rw [if_neg h0', ← em]
      simp only [fc_mod, fc_sub, fc_mul]
theorem ltI_ok (hp : Prm p) {A : Int} (C : Cv finv (fc p A) b) : ∀ (n : Nat) {S T : Option (Int × Int)}, RedP p S → RedP p T → On (fc p A) b (toF p S) → On (fc p A) b (toF p T) →
    RedP p (ltI p A n S T) ∧ toF p (ltI p A n S T) = padd finv (fc p A) (toF p S) (psm finv (fc p A) n (toF p T)) := by
  intro n
  induction n using Nat.strongRecOn with
  | ind n ih =>
    intro S T hS hT oS oT
    rw [ltI]
    by_cases h0 : n = 0
    · rw [if_pos h0, h0]
      exact ⟨hS, (padd_none_r _).symm⟩
    · rw [if_neg h0]
      obtain ⟨r1, e1⟩ := lsumI_ok hp C hT hT oT oT
      have o1 : On (fc p A) b (toF p (lsumI p A T T)) := by rw [e1]; exact padd_on C oT oT
      have hdbl : psm finv (fc p A) (n / 2) (padd finv (fc p A) (toF p T) (toF p T)) = psm finv (fc p A) (2 * (n / 2)) (toF p T) := by
        rw [psm_mul C oT]; rfl
      by_cases h2 : n % 2 = 1
      · rw [if_pos h2]
        obtain ⟨r2, e2⟩ := lsumI_ok hp C hS hT oS oT
        have o2 : On (fc p A) b (toF p (lsumI p A S T)) := by rw [e2]; exact padd_on C oS oT
        obtain ⟨r3, e3⟩ := ih (n / 2) (by omega) r2 r1 o2 o1
        refine ⟨r3, ?_⟩
        rw [e3, e2, e1, hdbl, padd_assoc C oS oT (psm_on C oT _)]
        have e4 : n = 1 + 2 * (n / 2) := by omega
        have e5 : psm finv (fc p A) n (toF p T) = psm finv (fc p A) (1 + 2 * (n / 2)) (toF p T) := by rw [← e4]
        rw [e5, psm_add C oT]; rfl
      · rw [if_neg h2]
        obtain ⟨r3, e3⟩ := ih (n / 2) (by omega) hS r1 oS o1
        refine ⟨r3, ?_⟩
        rw [e3, e1, hdbl, show 2 * (n / 2) = n by omega]
end

def flatI : Option (Int × Int) → Int × Int
  | none => (0, 0)
  | some r => r
/-- the first law's own recovery -/
def lrec (P N A B Gx Gy z v r s : Int) : Option (Int × Int) :=
  let c := (r * r * r + A * r + B) % P
  let y := c ^ ((P + 1) / 4).toNat % P
  if v < 27 ∨ v > 28 ∨ y * y % P ≠ c ∨ r % N = 0 ∨ s % N = 0 then none else
    let y' := if (y + v) % 2 = 0 then P - y else y
    let part := r ^ (N - 2).toNat % N
    some (flatI (lsumI P A (ltI P A (s * part % N).toNat none (some (r, y'))) (ltI P A ((0 - z * part) % N).toNat none (some (Gx, Gy)))))
section
variable {p : Nat} [NeZero p]
theorem flat_toF {S : Option (Int × Int)} (h : RedP p S) : flatP (toF p S) = flatI S := by
  match S, h with
  | none, _ => rfl
  | some (x, y), h =>
    show (((fc p x).val : Int), ((fc p y).val : Int)) = (x, y)
    rw [fc_val, fc_val, Int.emod_eq_of_lt h.1.1 h.1.2, Int.emod_eq_of_lt h.2.1 h.2.2]
theorem inv_uniq {N : Nat} [NeZero N] (hN : Prm N) {x u w : Fin N} (hx : x ≠ 0) (hu : u * x = 1) (hw : x * w = 1) : u = w := by
  have e : u * x * w = u * (x * w) := by clear hu hw; grind
  rw [hu, hw] at e
  clear hu hw; grind
/-- what a curve of the law brings -/
structure Crv (p N : Nat) [NeZero p] [NeZero N] (A B Gx Gy : Int) : Prop where
  hp : Prm p
  hN : Prm N
  C : Cv finv (fc p A) (fc p B)
  T : Tor finv (fc p A) (fc p B) N
  G : On (fc p A) (fc p B) (some (fc p Gx, fc p Gy))
  rx : Red p Gx
  ry : Red p Gy
variable {N : Nat} [NeZero N] {A B Gx Gy : Int}
theorem ltI_zsm (K : Crv p N A B Gx Gy) {x y : Int} (hx : Red p x) (hy : Red p y) (hP : On (fc p A) (fc p B) (some (fc p x, fc p y))) (k : Int) :
    RedP p (ltI p A (k % (N : Int)).toNat none (some (x, y))) ∧ toF p (ltI p A (k % (N : Int)).toNat none (some (x, y))) = zsm finv (fc p A) N k (some (fc p x, fc p y)) := by
  have h := ltI_ok K.hp K.C (k % (N : Int)).toNat (S := none) (T := some (x, y)) trivial ⟨hx, hy⟩ trivial hP
  exact ⟨h.1, h.2⟩
theorem ybeta_sq (K : Crv p N A B Gx Gy) {v r : Int} : fc p (ybeta p A B v r) * fc p (ybeta p A B v r) = fc p (((r * r * r + A * r + B) % (p : Int)) ^ (((p : Int) + 1) / 4).toNat % (p : Int)) * fc p (((r * r * r + A * r + B) % (p : Int)) ^ (((p : Int) + 1) / 4).toNat % (p : Int)) := by
  have _ := K.hp
  unfold ybeta
  dsimp only
  split
  · rw [fc_sub]
    have e : fc p (p : Int) = 0 := by rw [← fc_zero (p := p), fc_eq, Int.emod_self, Int.zero_emod]
    rw [e]; clear e; grind
  · rfl
theorem on_of_sq {x y : Int} (h : ((x * x * x + A * x + B) % (p : Int) - y * y) % (p : Int) = 0) : On (fc p A) (fc p B) (some (fc p x, fc p y)) := by
  have e : fc p ((x * x * x + A * x + B) % (p : Int) - y * y) = 0 := by rw [← fc_zero (p := p), fc_eq, h, Int.zero_emod]
  rw [fc_sub, fc_mod, fc_add, fc_add, fc_mul, fc_mul, fc_mul, fc_mul] at e
  show fc p y * fc p y = fc p x * fc p x * fc p x + fc p A * fc p x + fc p B
  exact (lin3 e).symm
theorem sq_iff (K : Crv p N A B Gx Gy) {v r : Int} :
    ((r * r * r + A * r + B) % (p : Int) - ybeta p A B v r * ybeta p A B v r) % (p : Int) ≠ 0 ↔
      (((r * r * r + A * r + B) % (p : Int)) ^ (((p : Int) + 1) / 4).toNat % (p : Int)) * (((r * r * r + A * r + B) % (p : Int)) ^ (((p : Int) + 1) / 4).toNat % (p : Int)) % (p : Int) ≠ (r * r * r + A * r + B) % (p : Int) := by
  have h := ybeta_sq K (v := v) (r := r)
  have e1 : ((r * r * r + A * r + B) % (p : Int) - ybeta p A B v r * ybeta p A B v r) % (p : Int) = 0 ↔ fc p (r * r * r + A * r + B) = fc p (ybeta p A B v r) * fc p (ybeta p A B v r) := by
    rw [← fc_mul, fc_eq, Int.emod_eq_emod_iff_emod_sub_eq_zero, Int.emod_sub_emod]
  have e2 : (((r * r * r + A * r + B) % (p : Int)) ^ (((p : Int) + 1) / 4).toNat % (p : Int)) * (((r * r * r + A * r + B) % (p : Int)) ^ (((p : Int) + 1) / 4).toNat % (p : Int)) % (p : Int) = (r * r * r + A * r + B) % (p : Int) ↔ fc p (r * r * r + A * r + B) = fc p (ybeta p A B v r) * fc p (ybeta p A B v r) := by
    rw [h, ← fc_mul, fc_eq]
    exact eq_comm
  rw [Ne, Ne, e1, e2]
end

section
variable {p : Nat} [NeZero p] {N : Nat} [NeZero N] {A B Gx Gy : Int}
theorem ybeta_red (K : Crv p N A B Gx Gy) {v r : Int} (h : On (fc p A) (fc p B) (some (fc p r, fc p (ybeta p A B v r)))) : Red p (ybeta p A B v r) := by
  have hne := on_yne K.C h
  have hr := red_mod (p := p) (((r * r * r + A * r + B) % (p : Int)) ^ (((p : Int) + 1) / 4).toNat)
  unfold ybeta at hne ⊢
  dsimp only at hne ⊢
  generalize (((r * r * r + A * r + B) % (p : Int)) ^ (((p : Int) + 1) / 4).toNat) % (p : Int) = w at *
  by_cases hc : v % 2 = w % 2
  · rw [if_pos hc] at hne ⊢
    have hw : w ≠ 0 := by
      intro e
      apply hne
      rw [e, Int.sub_zero, ← fc_zero (p := p), fc_eq, Int.emod_self, Int.zero_emod]
    exact ⟨by have := hr.2; omega, by have := hr.1; omega⟩
  · rw [if_neg hc]
    exact hr
theorem zsm_fc {F : Type} [Lean.Grind.CommRing F] [DecidableEq F] {inv : F → F} {a : F} {k j : Int} (h : fc N k = fc N j) (P : Pt F) : zsm inv a N k P = zsm inv a N j P := zsm_congr (fc_eq.mp h) P
theorem fc_pinv (K : Crv p N A B Gx Gy) {r : Int} (hr : fc N r ≠ 0) : fc N (pinv r N) = finv (fc N r) :=
  inv_uniq K.hN hr (pinv_spec K.hN hr) (fin_inv K.hN _ hr)
/-- the place that the project's recovery reckons -/
theorem precover_point (K : Crv p N A B Gx Gy) {z r y s : Int} (hy : Red p y) (hP : On (fc p A) (fc p B) (some (fc p r, fc p y))) :
    fromJ p (jmul p N A (jadd p A (jmul p N A (Gx, Gy, 1) (((N : Int) - z) % N)) (jmul p N A (r, y, 1) s)) (pinv r N)) =
      flatP (padd finv (fc p A) (zsm finv (fc p A) N (s * pinv r N) (some (fc p r, fc p y))) (zsm finv (fc p A) N (-z * pinv r N) (some (fc p Gx, fc p Gy)))) := by
  have hp := K.hp
  have hN0 : 0 < N := Nat.lt_trans (by decide) K.hN.1
  have r1 := rep_mul hp K.C (N := N) K.G (rep_affine hp K.ry) (((N : Int) - z) % N)
  have r2 := rep_mul hp K.C (N := N) hP (rep_affine hp hy) s
  have o1 := zsm_on K.C (N := N) K.G (((N : Int) - z) % N)
  have o2 := zsm_on K.C (N := N) hP s
  have r3 := rep_add hp K.C o1 o2 r1 r2
  have r4 := rep_mul hp K.C (N := N) (padd_on K.C o1 o2) r3 (pinv r N)
  rw [fromJ_rep hp r4, zsm_padd K.C o1 o2, ← zsm_mul K.C hN0 K.T K.G, ← zsm_mul K.C hN0 K.T hP, padd_comm K.C (zsm_on K.C K.G _) (zsm_on K.C hP _)]
  have e : fc N ((((N : Int) - z) % N) * pinv r N) = fc N (-z * pinv r N) := by
    rw [fc_mul, fc_mod, fc_sub, fc_mul, fc_neg]
    have e : fc N (N : Int) = 0 := by rw [← fc_zero (p := N), fc_eq, Int.emod_self, Int.zero_emod]
    rw [e]
    clear e; grind
  rw [zsm_fc e]
theorem recover_eq (K : Crv p N A B Gx Gy) {z v r s : Int} (hr : Red p r) : precover p N A B Gx Gy z v r s = lrec p N A B Gx Gy z v r s := by
  have hsq := sq_iff K (v := v) (r := r)
  unfold precover lrec
  dsimp only
  by_cases hv : v = 27 ∨ v = 28
  · rw [if_neg (by omega)]
    by_cases hb : recBad p N A B v r s = true
    · rw [if_pos hb, if_pos]
      rcases of_decide_eq_true hb with k | k | k
      · exact .inr (.inr (.inl (hsq.mp k)))
      · exact .inr (.inr (.inr (.inl k)))
      · exact .inr (.inr (.inr (.inr k)))
    · rw [if_neg hb]
      have hb' : ¬ (((r * r * r + A * r + B) % (p : Int) - ybeta p A B v r * ybeta p A B v r) % (p : Int) ≠ 0 ∨ r % (N : Int) = 0 ∨ s % (N : Int) = 0) := fun k => hb (decide_eq_true k)
      rw [if_neg (by
        rintro (k | k | k | k | k)
        · omega
        · omega
        · exact hb' (.inl (hsq.mpr k))
        · exact hb' (.inr (.inl k))
        · exact hb' (.inr (.inr k)))]
      have h1 : ((r * r * r + A * r + B) % (p : Int) - ybeta p A B v r * ybeta p A B v r) % (p : Int) = 0 := Decidable.not_not.mp fun k => hb' (.inl k)
      have hP := on_of_sq h1
      have hy := ybeta_red K hP
      have hrN : fc N r ≠ 0 := by
        intro e
        rw [← fc_zero (p := N), fc_eq, Int.zero_emod] at e
        exact hb' (.inr (.inl e))
      rw [precover_point K hy hP]
      have ey : (if ((((r * r * r + A * r + B) % (p : Int)) ^ (((p : Int) + 1) / 4).toNat) % (p : Int) + v) % 2 = 0 then (p : Int) - (((r * r * r + A * r + B) % (p : Int)) ^ (((p : Int) + 1) / 4).toNat) % (p : Int) else (((r * r * r + A * r + B) % (p : Int)) ^ (((p : Int) + 1) / 4).toNat) % (p : Int)) = ybeta p A B v r := by
        unfold ybeta
        dsimp only
        generalize (((r * r * r + A * r + B) % (p : Int)) ^ (((p : Int) + 1) / 4).toNat) % (p : Int) = w
        by_cases hc : v % 2 = w % 2
        · rw [if_pos hc, if_pos (by omega)]
        · rw [if_neg hc, if_neg (by omega)]
      rw [ey]
      have l1 := ltI_zsm K hr hy hP (s * (r ^ ((N : Int) - 2).toNat % (N : Int)))
      have l2 := ltI_zsm K K.rx K.ry K.G (0 - z * (r ^ ((N : Int) - 2).toNat % (N : Int)))
      have l3 := lsumI_ok K.hp K.C l1.1 l2.1 (by rw [l1.2]; exact zsm_on K.C hP _) (by rw [l2.2]; exact zsm_on K.C K.G _)
      rw [← flat_toF l3.1, l3.2, l1.2, l2.2]
      have ep : fc N (r ^ ((N : Int) - 2).toNat % (N : Int)) = fc N (pinv r N) := by
        rw [fc_pinv K hrN, ← fc_inv K.hN, fc_mod, fc_mod, fc_pow, fc_pow, fc_mod]
      rw [zsm_fc (k := s * (r ^ ((N : Int) - 2).toNat % (N : Int))) (j := s * pinv r N) (by rw [fc_mul, fc_mul, ep])]
      rw [zsm_fc (k := 0 - z * (r ^ ((N : Int) - 2).toNat % (N : Int))) (j := -z * pinv r N) (by
        rw [fc_sub, fc_zero, fc_mul, fc_mul, fc_neg, ep]; clear l1 l2 l3 ep ey hsq hb hb' h1; grind)]
  · rw [if_pos hv, if_pos (by omega)]
end

section
variable {p : Nat} [NeZero p] {N : Nat} [NeZero N] {A B Gx Gy : Int}
theorem fcN_zero_iff {x : Int} : fc N x = 0 ↔ x % (N : Int) = 0 := by rw [← fc_zero (p := N), fc_eq, Int.zero_emod]
theorem zsm_ne (K : Crv p N A B Gx Gy) {k : Int} (hk : k % (N : Int) ≠ 0) : zsm finv (fc p A) N k (some (fc p Gx, fc p Gy)) ≠ none := by
  intro h
  have hd := order_dvd K.C K.hN K.G (fun e => nomatch e) (K.T _ K.G) h
  have h0 := Int.emod_nonneg k (show (N : Int) ≠ 0 by have := npos (p := N); omega)
  have h1 := Int.emod_lt_of_pos k (npos (p := N))
  have := Nat.le_of_dvd (by omega) hd
  omega
/-- the signature, s with the sign that the lower half asks -/
theorem psign_eq (K : Crv p N A B Gx Gy) (hodd : N % 2 = 1) {z d k x y i s0 : Int} (hR : pmul p N A Gx Gy k = (x, y)) (hi : fc N i = fc N (pinv k N)) (hs : i * (z + x * d) % (N : Int) = s0) :
    psign p N A Gx Gy z d k = if 2 * s0 ≥ (N : Int) then (55 - (27 + y % 2), x, (N : Int) - s0) else (27 + y % 2, x, s0) := by
  have e : pinv k N * (z + x * d) % (N : Int) = s0 := by
    rw [← hs, ← fc_eq, fc_mul, fc_mul, hi]
  unfold psign
  rw [hR]
  dsimp only
  rw [e]
  by_cases h : s0 * 2 < (N : Int)
  · rw [if_pos h, if_neg (by omega)]
  · rw [if_neg h, if_pos (by omega)]
    have : 27 + (1 - y % 2) = 55 - (27 + y % 2) := by omega
    rw [this]
theorem beta_sq (K : Crv p N A B Gx Gy) (h4 : p % 4 = 3) {x y : Int} (hP : On (fc p A) (fc p B) (some (fc p x, fc p y))) :
    fc p (((x * x * x + A * x + B) % (p : Int)) ^ (((p : Int) + 1) / 4).toNat % (p : Int)) * fc p (((x * x * x + A * x + B) % (p : Int)) ^ (((p : Int) + 1) / 4).toNat % (p : Int)) = fc p y * fc p y := by
  have hy := on_yne K.C hP
  have hc : fc p ((x * x * x + A * x + B) % (p : Int)) = fc p y * fc p y := by
    rw [fc_mod, fc_add, fc_add, fc_mul, fc_mul, fc_mul]
    exact (show fc p y * fc p y = fc p x * fc p x * fc p x + fc p A * fc p x + fc p B from hP).symm
  rw [fc_mod, fc_pow, hc]
  have hf := fin_fermat K.hp _ hy
  have e1 : (((p : Int) + 1) / 4).toNat = (p + 1) / 4 := by omega
  rw [e1]
  have e2 : (fc p y * fc p y) ^ ((p + 1) / 4) * (fc p y * fc p y) ^ ((p + 1) / 4) = (fc p y) ^ (p - 1) * (fc p y * fc p y) := by
    have q : ∀ n : Nat, (fc p y * fc p y) ^ n * (fc p y * fc p y) ^ n = (fc p y) ^ (4 * n) := by
      intro n
      induction n with
      | zero => show (fc p y * fc p y) ^ 0 * (fc p y * fc p y) ^ 0 = fc p y ^ 0; clear hf hc e1 hP; grind
      | succ n ih =>
        have e3 : (fc p y * fc p y) ^ (n + 1) * (fc p y * fc p y) ^ (n + 1) = ((fc p y * fc p y) ^ n * (fc p y * fc p y) ^ n) * (fc p y * fc p y * fc p y * fc p y) := by clear hf hc e1 hP ih; grind
        have e4 : fc p y ^ (4 * (n + 1)) = fc p y ^ (4 * n) * (fc p y * fc p y * fc p y * fc p y) := by
          rw [show 4 * (n + 1) = 4 * n + 4 by omega]; clear hf hc e1 hP ih e3; grind
        rw [e3, ih, e4]
    rw [q, show 4 * ((p + 1) / 4) = (p - 1) + 2 by omega]
    clear hf hc e1 hP q; grind
  rw [e2, hf]
  clear hf hc e1 hP e2; grind
/-- the y that recovery takes is the one of the parity told -/
theorem ybeta_is (K : Crv p N A B Gx Gy) (h4 : p % 4 = 3) {v x y : Int} (hy : Red p y) (hP : On (fc p A) (fc p B) (some (fc p x, fc p y))) :
    (v % 2 = 1 - y % 2 → ybeta p A B v x = y) ∧ (v % 2 = y % 2 → ybeta p A B v x = (p : Int) - y) := by
  have hb := beta_sq K h4 hP
  have hyn := on_yne K.C hP
  have hr := red_mod (p := p) (((x * x * x + A * x + B) % (p : Int)) ^ (((p : Int) + 1) / 4).toNat)
  unfold ybeta
  dsimp only
  generalize (((x * x * x + A * x + B) % (p : Int)) ^ (((p : Int) + 1) / 4).toNat) % (p : Int) = w at *
  have hy0 : y ≠ 0 := fun e => hyn (by rw [e, fc_zero])
  have hw : w = y ∨ w = (p : Int) - y := by
    have q : (fc p w - fc p y) * (fc p w + fc p y) = 0 := by clear hr hyn; grind
    rcases fin_dom K.hp _ _ q with k | k
    · exact .inl (red_inj hr hy (lin3 k))
    · right
      refine red_inj hr ⟨by have := hy.2; omega, by have := hy.1; omega⟩ ?_
      have e : fc p (p : Int) = 0 := by rw [← fc_zero (p := p), fc_eq, Int.emod_self, Int.zero_emod]
      rw [fc_sub, e]
      clear hb q hr hyn e; grind
  have hp2 : (p : Int) % 2 = 1 := by omega
  rcases hw with e | e
  · subst e
    constructor
    · intro h; rw [if_neg (by omega)]
    · intro h; rw [if_pos (by omega)]
  · subst e
    constructor
    · intro h; rw [if_pos (by omega)]; omega
    · intro h; rw [if_neg (by omega)]
/-- recovery of a signature just made -/
theorem recover_sign (K : Crv p N A B Gx Gy) (h4 : p % 4 = 3) {z d k x y i s0 v s : Int} (hk : k % (N : Int) ≠ 0) (hR : pmul p N A Gx Gy k = (x, y)) (hi : fc N i = fc N (pinv k N)) (hs : i * (z + x * d) % (N : Int) = s0)
    (hvs : (v = 27 + y % 2 ∧ s = s0) ∨ (v = 55 - (27 + y % 2) ∧ s = (N : Int) - s0)) :
    precover p N A B Gx Gy z v x s = if x % (N : Int) = 0 ∨ s % (N : Int) = 0 then none else some (flatP (zsm finv (fc p A) N d (some (fc p Gx, fc p Gy)))) := by
  have hN0 : 0 < N := Nat.lt_trans (by decide) K.hN.1
  rw [pmul_spec K.hp K.C K.ry K.G k] at hR
  have hne := zsm_ne K hk
  have hon := zsm_on K.C (N := N) K.G k
  obtain ⟨X, Y, hXY⟩ : ∃ X Y, zsm finv (fc p A) N k (some (fc p Gx, fc p Gy)) = some (X, Y) := by
    match h : zsm finv (fc p A) N k (some (fc p Gx, fc p Gy)) with
    | none => exact absurd h hne
    | some (X, Y) => exact ⟨X, Y, rfl⟩
  rw [hXY] at hR hon
  have hx : (X.val : Int) = x := congrArg Prod.fst hR
  have hy : (Y.val : Int) = y := congrArg Prod.snd hR
  have fx : X = fc p x := by rw [← hx, fc_of_val]
  have fy : Y = fc p y := by rw [← hy, fc_of_val]
  have rx : Red p x := ⟨by omega, by have := X.isLt; omega⟩
  have ry : Red p y := ⟨by omega, by have := Y.isLt; omega⟩
  rw [fx, fy] at hon hXY
  have hb := ybeta_is K h4 (v := v) ry hon
  have hv : v = 27 ∨ v = 28 := by omega
  have hcase : (ybeta p A B v x = y ∧ s = s0) ∨ (ybeta p A B v x = (p : Int) - y ∧ s = (N : Int) - s0) := by
    rcases hvs with ⟨e1, e2⟩ | ⟨e1, e2⟩
    · exact .inl ⟨hb.1 (by omega), e2⟩
    · exact .inr ⟨hb.2 (by omega), e2⟩
  have hsq : ((x * x * x + A * x + B) % (p : Int) - ybeta p A B v x * ybeta p A B v x) % (p : Int) = 0 := by
    have e : fc p ((x * x * x + A * x + B) % (p : Int) - ybeta p A B v x * ybeta p A B v x) = 0 := by
      rw [fc_sub, fc_mod, fc_add, fc_add, fc_mul, fc_mul, fc_mul, fc_mul, ybeta_sq K, beta_sq K h4 hon]
      have h9 : fc p y * fc p y = fc p x * fc p x * fc p x + fc p A * fc p x + fc p B := hon
      rw [h9]
      clear hb hon h9 hXY fx fy; grind
    exact fcN_zero_iff.mp e
  unfold precover
  rw [if_neg (by omega)]
  by_cases hz : x % (N : Int) = 0 ∨ s % (N : Int) = 0
  · rw [if_pos hz, if_pos (show recBad p N A B v x s = true from decide_eq_true (.inr hz))]
  · rw [if_neg hz, if_neg (show ¬ recBad p N A B v x s = true from fun k => (of_decide_eq_true k).elim (fun q => q hsq) hz)]
    have hP := on_of_sq hsq
    rw [precover_point K (ybeta_red K hP) hP]
    have hxN : fc N x ≠ 0 := fun e => hz (.inl (fcN_zero_iff.mp e))
    have hkN : fc N k ≠ 0 := fun e => hk (fcN_zero_iff.mp e)
    have i1 := pinv_spec K.hN hxN
    have i2 := pinv_spec K.hN hkN
    have es0 : fc N s0 = fc N (pinv k N) * (fc N z + fc N x * fc N d) := by
      rw [← hs, fc_mod, fc_mul, fc_add, fc_mul, hi]
    have eN : fc N (N : Int) = 0 := by rw [← fc_zero (p := N), fc_eq, Int.emod_self, Int.zero_emod]
    have ep : fc p (p : Int) = 0 := by rw [← fc_zero (p := p), fc_eq, Int.emod_self, Int.zero_emod]
    have fin : ∀ t : Int, fc N t = fc N k * (fc N s0 * fc N (pinv x N)) → padd finv (fc p A) (zsm finv (fc p A) N t (some (fc p Gx, fc p Gy))) (zsm finv (fc p A) N (-z * pinv x N) (some (fc p Gx, fc p Gy))) = zsm finv (fc p A) N d (some (fc p Gx, fc p Gy)) := by
      intro t ht
      rw [← zsm_add K.C hN0 K.T K.G]
      refine zsm_fc ?_ _
      rw [fc_add, ht, fc_mul, fc_neg, es0]
      have e : fc N k * (fc N (pinv k N) * (fc N z + fc N x * fc N d) * fc N (pinv x N)) + -fc N z * fc N (pinv x N) = (fc N (pinv k N) * fc N k) * (fc N z * fc N (pinv x N) + (fc N (pinv x N) * fc N x) * fc N d) - fc N z * fc N (pinv x N) := by
        clear hb hon hXY fx fy es0 i1 i2 eN ep ht hsq hP; grind
      rw [e, i1, i2]
      clear hb hon hXY fx fy es0 i1 i2 eN ep ht hsq hP e; grind
    rcases hcase with ⟨e1, e2⟩ | ⟨e1, e2⟩
    · rw [e1, e2, ← hXY, ← zsm_mul K.C hN0 K.T K.G, fin]
      rw [fc_mul, fc_mul]
    · have e3 : (some (fc p x, fc p ((p : Int) - y)) : Pt (Fin p)) = zsm finv (fc p A) N (-k) (some (fc p Gx, fc p Gy)) := by
        rw [zsm_neg K.C hN0 K.T K.G, hXY, fc_sub, ep]
        show _ = some (fc p x, -fc p y)
        have : (0 : Fin p) - fc p y = -fc p y := by clear hb hon hXY fx fy es0 i1 i2 eN ep hsq hP fin; grind
        rw [this]
      rw [e1, e2, e3, ← zsm_mul K.C hN0 K.T K.G, fin]
      rw [fc_mul, fc_mul, fc_neg, fc_sub, eN]
      clear hb hon hXY fx fy es0 i1 i2 ep hsq hP fin e3; grind
end

def chk (f : Nat → Bool) : Nat → Nat → Bool
  | 0, lo => f lo
  | k + 1, lo => chk f k lo && chk f k (lo + 2 ^ k)
theorem chk_all {f : Nat → Bool} : ∀ (k lo : Nat), chk f k lo = true → ∀ n, lo ≤ n → n < lo + 2 ^ k → f n = true
  | 0, lo, h, n, h1, h2 => by
    have : n = lo := by simp at h2; omega
    rw [this]; exact h
  | k + 1, lo, h, n, h1, h2 => by
    have h' := Bool.and_eq_true_iff.mp h
    rw [Nat.pow_succ] at h2
    by_cases hn : n < lo + 2 ^ k
    · exact chk_all k lo h'.1 n h1 hn
    · exact chk_all k (lo + 2 ^ k) h'.2 n (by omega) (by omega)
def prmC (p k : Nat) : Bool := decide (1 < p) && decide (p < 2 ^ k * 2 ^ k) && chk (fun d => decide (d < 2) || p % d != 0 || decide (d = p)) k 0
theorem prm_of {p k : Nat} (h : prmC p k = true) : Prm p := by
  unfold prmC at h
  rw [Bool.and_eq_true, Bool.and_eq_true] at h
  obtain ⟨⟨h1, h2⟩, h3⟩ := h
  have h1 := of_decide_eq_true h1
  have h2 := of_decide_eq_true h2
  have small : ∀ d, d ∣ p → d < 2 ^ k → d = 1 ∨ d = p := by
    intro d hd hk
    have := chk_all k 0 h3 d (Nat.zero_le _) (by omega)
    simp only [Bool.or_eq_true, decide_eq_true_eq, bne_iff_ne, ne_eq] at this
    rcases this with (h | h) | h
    · left
      have : d ≠ 0 := fun e => by rw [e] at hd; have := Nat.eq_zero_of_zero_dvd hd; omega
      omega
    · exact absurd (Nat.mod_eq_zero_of_dvd hd) h
    · exact .inr h
  refine ⟨h1, fun d hd => ?_⟩
  by_cases hk : d < 2 ^ k
  · exact small d hd hk
  · obtain ⟨e, he⟩ := hd
    have hek : e < 2 ^ k := by
      by_cases hc : e < 2 ^ k
      · exact hc
      · have : 2 ^ k * 2 ^ k ≤ d * e := Nat.mul_le_mul (by omega) (by omega)
        omega
    rcases small e ⟨d, by rw [he, Nat.mul_comm]⟩ hek with h | h
    · right; rw [he, h, Nat.mul_one]
    · left
      have hp0 : 0 < p := by omega
      have : d * p = 1 * p := by rw [Nat.one_mul]; rw [h] at he; exact he.symm
      exact Nat.eq_of_mul_eq_mul_right hp0 this
def rootL (p a b x : Nat) : Bool := or (Nat.ble p x) (Nat.ble 1 (Nat.mod (Nat.add (Nat.mul x (Nat.add (Nat.mul x x) a)) b) p))
def rootK (p a b : Nat) : Nat → Nat → Bool
  | 0, lo => rootL p a b lo
  | k + 1, lo => and (rootK p a b k lo) (rootK p a b k (Nat.add lo (Nat.pow 2 k)))
theorem rootK_eq {p a b : Nat} : ∀ k lo, rootK p a b k lo = chk (rootL p a b) k lo
  | 0, _ => rfl
  | k + 1, lo => by
    show and (rootK p a b k lo) (rootK p a b k (lo + 2 ^ k)) = and (chk _ k lo) (chk _ k (lo + 2 ^ k))
    rw [rootK_eq k, rootK_eq k]
def rootC (p a b k : Nat) : Bool := and (Nat.ble p (Nat.pow 2 k)) (rootK p a b k 0)
theorem root_of {p a b k : Nat} [NeZero p] (h : rootC p a b k = true) (x : Fin p) : x * x * x + fc p (a : Int) * x + fc p (b : Int) ≠ 0 := by
  unfold rootC at h
  obtain ⟨h1, h2⟩ := Bool.and_eq_true_iff.mp h
  have h1 : p ≤ 2 ^ k := Nat.le_of_ble_eq_true h1
  rw [rootK_eq] at h2
  have := chk_all k 0 h2 x.val (Nat.zero_le _) (by have := x.isLt; omega)
  unfold rootL at this
  have h3 : 1 ≤ (x.val * (x.val * x.val + a) + b) % p := by
    rcases Bool.or_eq_true_iff.mp this with k | k
    · have k' : p ≤ x.val := Nat.le_of_ble_eq_true k
      have := x.isLt
      omega
    · exact Nat.le_of_ble_eq_true k
  intro e
  have e2 : fc p ((x.val : Int) * ((x.val : Int) * x.val + (a : Int)) + (b : Int)) = 0 := by
    rw [fc_add, fc_mul, fc_add, fc_mul, fc_of_val, ← e]
    clear h h1 h2 h3 e this; grind
  rw [← fc_zero (p := p), fc_eq, Int.zero_emod] at e2
  have e3 : (((x.val * (x.val * x.val + a) + b) % p : Nat) : Int) = 0 := by
    rw [Int.natCast_emod]
    simpa using e2
  omega
def jmF (P A : Int) (a : Tri) : Nat → Nat → Tri
  | 0, _ => (0, 0, 1)
  | f + 1, n => if n = 0 then (0, 0, 1) else if n = 1 then a else
    if n % 2 = 0 then jdbl P A (jmF P A a f (n / 2)) else jadd P A (jdbl P A (jmF P A a f (n / 2))) a
theorem jmF_eq {P A : Int} {a : Tri} : ∀ (f n : Nat), n < 2 ^ f → jmF P A a f n = jmulN P A a n
  | 0, n, h => by
    have : n = 0 := by simpa using h
    rw [this, jmulN]; rfl
  | f + 1, n, h => by
    rw [jmF, jmulN]
    rw [Nat.pow_succ] at h
    have := jmF_eq (P := P) (A := A) (a := a) f (n / 2) (by omega)
    rw [this]
/-- the cheap checks of a curve: primes, the base on it, its order, the bound -/
def crvC (p N a b gx gy : Nat) : Bool :=
  prmC p 8 && prmC N 8 && decide ((jmF (p : Int) (a : Int) ((gx : Int), (gy : Int), 1) 17 N).2.1 = 0) && decide (N < 2 ^ 17) &&
  decide ((gx * gx * gx + a * gx + b) % p = gy * gy % p) && decide (gx < p) && decide (gy < p) && decide (2 * p + 1 < 3 * N) && decide (p ≠ 2)
theorem crv_of {p N a b gx gy k : Nat} [NeZero p] [NeZero N] (h : crvC p N a b gx gy = true) (hr : rootC p a b k = true) : Crv p N (a : Int) (b : Int) (gx : Int) (gy : Int) := by
  unfold crvC at h
  simp only [Bool.and_eq_true, decide_eq_true_eq] at h
  obtain ⟨⟨⟨⟨⟨⟨⟨⟨h1, h2⟩, h3⟩, h4⟩, h5⟩, h6⟩, h7⟩, h8⟩, h9⟩ := h
  have hp := prm_of h1
  have hN := prm_of h2
  have C := cv_of hp h9 (root_of hr)
  have rx : Red p (gx : Int) := ⟨by omega, by omega⟩
  have ry : Red p (gy : Int) := ⟨by omega, by omega⟩
  have G : On (fc p (a : Int)) (fc p (b : Int)) (some (fc p (gx : Int), fc p (gy : Int))) := by
    show fc p (gy : Int) * fc p (gy : Int) = _
    have e : fc p ((gx : Int) * gx * gx + (a : Int) * gx + (b : Int)) = fc p ((gy : Int) * gy) := by
      rw [fc_eq]
      have q1 : (((gx * gx * gx + a * gx + b : Nat) % p : Nat) : Int) = ((gy * gy % p : Nat) : Int) := by rw [h5]
      rw [Int.natCast_emod, Int.natCast_emod] at q1
      simpa using q1
    rw [fc_add, fc_add, fc_mul, fc_mul, fc_mul, fc_mul] at e
    exact e.symm
  have hord : psm finv (fc p (a : Int)) N (some (fc p (gx : Int), fc p (gy : Int))) = none := by
    have hrep := rep_mulN hp C G (rep_affine hp ry) N
    refine (rep_y0 hp (psm_on C G N) C hrep).mp ?_
    rw [← jmF_eq 17 N h4]
    exact h3
  exact ⟨hp, hN, C, tor_of_order hp C hN G (fun e => nomatch e) hord h8, G, rx, ry⟩

end Mine
open PySem PySem.W PyProof.Rows PySem.Calls PySem.Spec
namespace Mine
set_option synthInstance.maxSize 1 in
open_top hd for PySem.Challenge.rw_iv0042_02
local macro_rules | `(tactic| walk_at $s:str) => `(tactic| k_extra $s)
local macro_rules | `(tactic| k_mem) => `(tactic| ((repeat (first | with_reducible exact List.mem_cons_self | with_reducible assumption | with_reducible refine List.mem_cons_of_mem _ ?_ | with_reducible refine List.mem_append_right _ ?_)); done))
local macro_rules | `(tactic| kcj_all) => `(tactic| ((intro p hp); (repeat (first | with_reducible exact hp | with_reducible refine List.mem_cons_of_mem _ ?_ | with_reducible refine List.mem_append_right _ ?_)); done))
section
abbrev Led := List (Addr × Obj)
abbrev tup2 (x y : Int) (t1 t2 : Tok) (c : Nat) : Obj := { cls := .type "tuple", data := .seq #[.int x t1, .int y t2] c }
abbrev tup3 (x y z : Int) (t1 t2 t3 : Tok) (c : Nat) : Obj := { cls := .type "tuple", data := .seq #[.int x t1, .int y t2, .int z t3] c }
abbrev tup6 (P N A B Gx Gy : Int) (t1 t2 t3 t4 t5 t6 : Tok) (c : Nat) : Obj := { cls := .type "tuple", data := .seq #[.int P t1, .int N t2, .int A t3, .int B t4, .int Gx t5, .int Gy t6] c }

/-- a small number: 0 ≤ x < 2^20 -/
abbrev Sm (x : Int) : Prop := 0 ≤ x ∧ x < 2 ^ 20

/-- the call of the def at f gives a value and some made objects, told by out -/
def CallOk (w : World) (mean : ExcName → Option Value) (mg mb : Str → Option Value) (f : Addr) (sz : Nat) (vs : List Value) (news : Led) (out : Value → Led → Prop) : Prop :=
  ∀ (dp un : Nat) (gd : Option (List Code)) (cn : Str) (cs : Scope) (a : Addr) (ccd : Value) (cl : List (Str × Addr)) (outer : List Env) (A₀ : Around) (base h₀ : Heap) (L : Addr) (m : Str → Option Value) (s : Shared) (Q E : Value → Shared → Prop),
    Below A₀ base outer h₀ → Fr h₀ L s.heap m → (hd.heap_39 w.params).In h₀ → News h₀ L s.heap news → Top hd.view_39 (looseW hd.view_39 []) mean mg mb h₀ → cs.kind = .function →
    dp + sz < recursionLimit → un + 8 * sz < cLine →
    (∀ r nw h' tk', Fr h₀ L h' m → News h₀ L h' (nw ++ news) → out r nw → Q r { s with heap := h', toks := tk' }) →
    wpAny (model PySem.Challenge.rw_iv0042_02.row.prog w) (ktrTop dp un gd cn cs L a ccd cl outer) (call (.ref f) vs) Q E s

theorem callOk_use {w : World} {mean : ExcName → Option Value} {mg mb : Str → Option Value} {f : Addr} {sz : Nat} {vs : List Value} {news : Led} {out : Value → Led → Prop}
    {dp un : Nat} {gd : Option (List Code)} {cn : Str} {cs : Scope} {a : Addr} {ccd : Value} {cl : List (Str × Addr)} {outer : List Env} {A₀ : Around} {base h₀ : Heap} {L : Addr} {m : Str → Option Value} {s : Shared} {Q E : Value → Shared → Prop}
    (B : Below A₀ base outer h₀) (F : Fr h₀ L s.heap m) (X : (hd.heap_39 w.params).In h₀) (N : News h₀ L s.heap news) (T : Top hd.view_39 (looseW hd.view_39 []) mean mg mb h₀) (hk : cs.kind = .function)
    (C : CallOk w mean mg mb f sz vs news out) (hd : dp + sz < recursionLimit) (hu : un + 8 * sz < cLine)
    (ret : ∀ r nw h' tk', Fr h₀ L h' m → News h₀ L h' (nw ++ news) → out r nw → Q r { s with heap := h', toks := tk' }) :
    wpAny (model PySem.Challenge.rw_iv0042_02.row.prog w) (ktrTop dp un gd cn cs L a ccd cl outer) (call (.ref f) vs) Q E s :=
  C _ _ _ _ _ _ _ _ _ _ _ _ _ _ _ _ _ B F X N T hk hd hu ret

theorem CallOk.more {w : World} {mean : ExcName → Option Value} {mg mb : Str → Option Value} {f : Addr} {sz sz' : Nat} {vs : List Value} {news : Led} {out : Value → Led → Prop}
    (C : CallOk w mean mg mb f sz vs news out) (h : sz ≤ sz') : CallOk w mean mg mb f sz' vs news out :=
  fun _ _ _ _ _ _ _ _ _ _ _ _ _ _ _ _ _ B F X N T hk hd hu ret => C _ _ _ _ _ _ _ _ _ _ _ _ _ _ _ _ _ B F X N T hk (by omega) (by omega) ret
theorem CallOk.mono {w : World} {mean : ExcName → Option Value} {mg mb : Str → Option Value} {f : Addr} {sz : Nat} {vs : List Value} {news : Led} {out out' : Value → Led → Prop}
    (C : CallOk w mean mg mb f sz vs news out) (h : ∀ r nw, out r nw → out' r nw) : CallOk w mean mg mb f sz vs news out' :=
  fun _ _ _ _ _ _ _ _ _ _ _ _ _ _ _ _ _ B F X N T hk hd hu ret => C _ _ _ _ _ _ _ _ _ _ _ _ _ _ _ _ _ B F X N T hk hd hu fun r nw h' tk' F' N' o => ret r nw h' tk' F' N' (h r nw o)

/-- what comes back is a tuple of three small ints, T -/
def Res3 (T : Tri) (r : Value) (nw : Led) : Prop :=
  ∃ D X Y Z s1 s2 s3 d, (X, Y, Z) = T ∧ Sm X ∧ Sm Y ∧ Sm Z ∧ r = .ref D ∧ nw = [(D, tup3 X Y Z s1 s2 s3 d)]
def Res2 (T : Int × Int) (r : Value) (nw : Led) : Prop :=
  ∃ D X Y s1 s2 d, (X, Y) = T ∧ Sm X ∧ Sm Y ∧ r = .ref D ∧ nw = [(D, tup2 X Y s1 s2 d)]
def ResS (x : Int) (r : Value) (nw : Led) : Prop := ∃ y t, y = x ∧ Sm y ∧ r = .int y t ∧ nw = []
def ResI (x : Int) (r : Value) (nw : Led) : Prop := ∃ t, r = .int x t ∧ nw = []

section
variable {h₀ h' : Heap} {L : Addr} {m : Str → Option Value} {news led : Led} {s : Shared} {Q : Value → Shared → Prop} {tk' : Nat}
theorem news_sub (N : News h₀ L h' led) (hs : ∀ p ∈ news, p ∈ led) : News h₀ L h' news := fun p hp => N p (hs p hp)
theorem news_add {q : Addr × Obj} (N : News h₀ L h' led) (hs : ∀ p ∈ news, p ∈ led) (hm : q ∈ led) : News h₀ L h' (q :: news) := fun p hp => by
  rcases List.mem_cons.mp hp with rfl | hp
  · exact N _ hm
  · exact N p (hs p hp)
theorem end3 {T : Tri} {X Y Z : Int} {D : Addr} {s1 s2 s3 : Tok} {d : Nat}
    (hret : ∀ r nw h' tk', Fr h₀ L h' m → News h₀ L h' (nw ++ news) → Res3 T r nw → Q r { s with heap := h', toks := tk' })
    (F : Fr h₀ L h' m) (N : News h₀ L h' led) (hm : (D, tup3 X Y Z s1 s2 s3 d) ∈ led) (hs : ∀ p ∈ news, p ∈ led) (e : (X, Y, Z) = T) (hX : Sm X) (hY : Sm Y) (hZ : Sm Z) :
    Q (.ref D) { s with heap := h', toks := tk' } :=
  hret _ [_] _ _ F (news_add N hs hm) ⟨_, _, _, _, _, _, _, _, e, hX, hY, hZ, rfl, rfl⟩
theorem end2 {T : Int × Int} {X Y : Int} {D : Addr} {s1 s2 : Tok} {d : Nat}
    (hret : ∀ r nw h' tk', Fr h₀ L h' m → News h₀ L h' (nw ++ news) → Res2 T r nw → Q r { s with heap := h', toks := tk' })
    (F : Fr h₀ L h' m) (N : News h₀ L h' led) (hm : (D, tup2 X Y s1 s2 d) ∈ led) (hs : ∀ p ∈ news, p ∈ led) (e : (X, Y) = T) (hX : Sm X) (hY : Sm Y) :
    Q (.ref D) { s with heap := h', toks := tk' } :=
  hret _ [_] _ _ F (news_add N hs hm) ⟨_, _, _, _, _, _, e, hX, hY, rfl, rfl⟩
theorem endS {x y : Int} {t : Tok}
    (hret : ∀ r nw h' tk', Fr h₀ L h' m → News h₀ L h' (nw ++ news) → ResS x r nw → Q r { s with heap := h', toks := tk' })
    (F : Fr h₀ L h' m) (N : News h₀ L h' led) (hs : ∀ p ∈ news, p ∈ led) (e : y = x) (hy : Sm y) :
    Q (.int y t) { s with heap := h', toks := tk' } :=
  hret _ [] _ _ F (news_sub N hs) ⟨y, t, e, hy, rfl, rfl⟩
theorem endI {x y : Int} {t : Tok}
    (hret : ∀ r nw h' tk', Fr h₀ L h' m → News h₀ L h' (nw ++ news) → ResI x r nw → Q r { s with heap := h', toks := tk' })
    (F : Fr h₀ L h' m) (N : News h₀ L h' led) (hs : ∀ p ∈ news, p ∈ led) (e : y = x) :
    Q (.int y t) { s with heap := h', toks := tk' } :=
  hret _ [] _ _ F (news_sub N hs) ⟨t, by rw [e], rfl⟩
end

section
variable {prog : Program} {w : World} {A : Around} {E : Value → Shared → Prop} {s : Shared} {a b : Int} {t u : Tok} {Q : Value → Shared → Prop}
theorem modN (hb : 0 < b) (h : ∀ r t k, a % b = r → 0 ≤ r → r < b → Q (.int r t) { s with toks := k }) :
    wpAny (model prog w) A (binaryOp .Mod (.int a t) (.int b u)) Q E s := by
  refine mod_int' (by omega) ?_
  rw [Int.fmod_eq_emod_of_nonneg _ (by omega)]
  exact h _ _ _ rfl (Int.emod_nonneg _ (by omega)) (Int.emod_lt_of_pos _ hb)
theorem divN (hb : 0 < b) (hb2 : b < 1073741824) (h : ∀ r t k, a / b = r → Q (.int r t) { s with toks := k }) :
    wpAny (model prog w) A (binaryOp .FloorDiv (.int a t) (.int b u)) Q E s := by
  refine floordiv_int (by omega) ?_ (.inl (PyProof.noPylong_small (by omega)))
  rw [Int.fdiv_eq_ediv_of_nonneg _ (by omega)]
  exact h _ _ _ rfl
theorem mulT (hm : IntMulOk a b) (h : ∀ t k, Q (.int (a * b) t) { s with toks := k }) : wpAny (model prog w) A (binaryOp .Mult (.int a t) (.int b u)) Q E s := mul_int (h _ _) hm
theorem addT (h : ∀ t k, Q (.int (a + b) t) { s with toks := k }) : wpAny (model prog w) A (binaryOp .Add (.int a t) (.int b u)) Q E s := add_int (h _ _)
theorem subT (h : ∀ t k, Q (.int (a - b) t) { s with toks := k }) : wpAny (model prog w) A (binaryOp .Sub (.int a t) (.int b u)) Q E s := sub_int (h _ _)
theorem okL (h1 : -(2 ^ 64) < a) (h2 : a < 2 ^ 64) : IntMulOk a b := .of_left (intBits_le_64 h1 h2)
theorem okR (h1 : -(2 ^ 64) < b) (h2 : b < 2 ^ 64) : IntMulOk a b := .of_right (intBits_le_64 h1 h2)
theorem okLs (h0 : 0 ≤ a) (h1 : a < 2 ^ 20) : IntMulOk a b := okL (by omega) (by omega)
theorem okRs (h0 : 0 ≤ b) (h1 : b < 2 ^ 20) : IntMulOk a b := okR (by omega) (by omega)
theorem okLP {P : Int} (h0 : 0 ≤ a) (h1 : a < P) (h2 : P < 2 ^ 20) : IntMulOk a b := okL (by omega) (by omega)
theorem okRP {P : Int} (h0 : 0 ≤ b) (h1 : b < P) (h2 : P < 2 ^ 20) : IntMulOk a b := okR (by omega) (by omega)
theorem sm_of {P : Int} (h0 : 0 ≤ a) (h1 : a < P) (h2 : P < 2 ^ 20) : Sm a := ⟨h0, by omega⟩
theorem pow2 (h1 : -(2 ^ 63) < a) (h2 : a < 2 ^ 63) (h : ∀ t k, Q (.int (a ^ 2) t) { s with toks := k }) :
   wpAny (model prog w) A (binaryOp .Pow (.int a t) (.int 2 u)) Q E s := pow_int_small (by decide) (by decide) (by omega) (h _ _)
theorem pow3 (h1 : -(2 ^ 63) < a) (h2 : a < 2 ^ 63) (h : ∀ t k, Q (.int (a ^ 3) t) { s with toks := k }) :
   wpAny (model prog w) A (binaryOp .Pow (.int a t) (.int 3 u)) Q E s := pow_int_small (by decide) (by decide) (by omega) (h _ _)
theorem pow4 (h1 : -(2 ^ 63) < a) (h2 : a < 2 ^ 63) (h : ∀ t k, Q (.int (a ^ 4) t) { s with toks := k }) :
   wpAny (model prog w) A (binaryOp .Pow (.int a t) (.int 4 u)) Q E s := pow_int_small (by decide) (by decide) (by omega) (h _ _)
end


theorem bval_nil : (0 : Int) = bval [] ∧ (0 : Int) ≤ 0 ∧ (0 : Int) < 256 ^ ([] : List Int).length := by decide
theorem bval_step {pre : List Int} {o n : Int} (h : o = bval pre) (h2 : 0 ≤ o) (h3 : o < 256 ^ pre.length) (h0 : 0 ≤ n) (h1 : n < 256) :
    o * 256 + n = bval (pre ++ [n]) ∧ 0 ≤ o * 256 + n ∧ o * 256 + n < 256 ^ (pre ++ [n]).length := by
  subst h
  refine ⟨by simp [bval], by omega, ?_⟩
  rw [List.length_append, List.length_singleton, Int.pow_succ]
  omega
theorem pow256_lt {a : Int} {k : Nat} (h0 : 0 ≤ a) (h1 : a < 256 ^ k) (hk : k ≤ 64) : a.natAbs < 2 ^ 512 := by
  have e : (256 : Int) ^ k = ((256 ^ k : Nat) : Int) := by rw [Int.natCast_pow]; rfl
  have h2 : 256 ^ k ≤ 256 ^ 64 := Nat.pow_le_pow_right (by decide) hk
  have h3 : 256 ^ 64 = 2 ^ 512 := by rw [show 256 = 2 ^ 8 from rfl, ← Nat.pow_mul]
  have h4 : a.natAbs < 256 ^ k := by
    rw [e] at h1
    generalize 256 ^ k = q at *
    omega
  exact h3 ▸ Nat.lt_of_lt_of_le h4 h2
section
variable {prog : Program} {w : World} {A : Around} {E : Value → Shared → Prop} {s : Shared} {a b : Int} {t u : Tok} {Q : Value → Shared → Prop}
theorem shl8 {k : Nat} (h0 : 0 ≤ a) (h1 : a < 256 ^ k) (hk : k ≤ 64) (h : Q (.int (a * 256) s.toks) { s with toks := s.toks + 1 }) :
    wpAny (model prog w) A (binaryOp .LShift (.int a t) (.int 8 u)) Q E s := by
  refine lshift_int (by decide) ?_ h
  have : Builtin.Int.intBits a ≤ 512 := intBits_le_iff.mpr (pow256_lt h0 h1 hk)
  have e : (2 : Int) ^ 27 = 134217728 := by decide
  rw [e]
  omega
end
abbrev EglI (a n lm hm low high : Int) : Prop := egl lm hm low high = egl 1 0 (a % n) n ∧ 0 ≤ low ∧ low < high ∧ high ≤ n
theorem egl_start {a n r : Int} (hn : 0 < n) (hr : a % n = r) : EglI a n 1 0 r n := by
  subst hr
  exact ⟨rfl, Int.emod_nonneg _ (by omega), Int.emod_lt_of_pos _ hn, Int.le_refl _⟩
theorem egl_turn {a n lm hm low high r : Int} (h1 : egl lm hm low high = egl 1 0 (a % n) n) (h2 : 0 ≤ low) (h3 : low < high) (h4 : high ≤ n) (hl : 1 < low) (hr : high / low = r) : EglI a n (hm - lm * r) lm (high - low * r) low := by
  subst hr
  have q1 := Int.emod_lt_of_pos high (show (0 : Int) < low by omega)
  have q2 := Int.mul_ediv_add_emod high low
  have q3 := Int.emod_nonneg high (show low ≠ 0 by omega)
  refine ⟨?_, by omega, by omega, by omega⟩
  rw [← h1, egl.eq_def lm, if_pos hl]
theorem egl_less {low high r : Int} (hl : 1 < low) (hr : high / low = r) : (high - low * r).toNat < low.toNat := by
  subst hr
  have q1 := Int.emod_lt_of_pos high (show (0 : Int) < low by omega)
  have q2 := Int.mul_ediv_add_emod high low
  omega
theorem egl_end {a n lm hm low high r : Int} (h1 : egl lm hm low high = egl 1 0 (a % n) n) (hl : ¬ 1 < low) (hr : lm % n = r) (ha : a ≠ 0) : r = pinv a n := by
  rw [pinv, if_neg ha, ← h1, egl.eq_def, if_neg hl, hr]
theorem pinv_zero {x n : Int} (h : x = 0) : (0 : Int) = pinv x n := (if_pos h).symm
theorem egl_mul {x n low high r : Int} (h2 : 0 ≤ low) (h3 : low < high) (h4 : high ≤ n) (hn : n < 2 ^ 20) (hr : high / low = r) : IntMulOk x r := by
  subst hr
  have q1 : 0 ≤ high / low := Int.ediv_nonneg (by omega) (by omega)
  have q2 : high / low ≤ high := Int.ediv_le_self low (by omega)
  exact okR (by omega) (by omega)
theorem jmul_inf {P N A x z n : Int} : jmul P N A (x, 0, z) n = (0, 0, 1) := if_pos rfl
theorem jmul_zero {P N A : Int} {a : Tri} : jmul P N A a 0 = (0, 0, 1) := by
  unfold jmul; split
  · rfl
  · rw [Int.zero_emod, jmulN]; rfl
theorem jmul_one {P N A x y z : Int} (hN : 1 < N) (hy : y ≠ 0) : jmul P N A (x, y, z) 1 = (x, y, z) := by
  unfold jmul
  rw [if_neg hy, Int.emod_eq_of_lt (by decide) hN, jmulN]; rfl
theorem jmul_mod {P N A : Int} {a : Tri} {n : Int} : jmul P N A a (n % N) = jmul P N A a n := by
  unfold jmul
  rw [Int.emod_emod_of_dvd _ (Int.dvd_refl N)]
theorem jmul_even {P N A x y z n : Int} (hy : y ≠ 0) (h0 : 1 < n) (hN : n < N) (h2 : n % 2 = 0) : jmul P N A (x, y, z) n = jdbl P A (jmul P N A (x, y, z) (n / 2)) := by
  unfold jmul
  rw [if_neg hy, if_neg hy, Int.emod_eq_of_lt (by omega) hN, Int.emod_eq_of_lt (by omega) (by omega), jmulN]
  rw [if_neg (by omega), if_neg (by omega), if_pos (by omega), show (n / 2).toNat = n.toNat / 2 by omega]
theorem jmul_odd {P N A x y z n : Int} (hy : y ≠ 0) (h0 : 1 < n) (hN : n < N) (h2 : n % 2 = 1) : jmul P N A (x, y, z) n = jadd P A (jdbl P A (jmul P N A (x, y, z) (n / 2))) (x, y, z) := by
  unfold jmul
  rw [if_neg hy, if_neg hy, Int.emod_eq_of_lt (by omega) hN, Int.emod_eq_of_lt (by omega) (by omega), jmulN]
  rw [if_neg (by omega), if_neg (by omega), if_neg (by omega), show (n / 2).toNat = n.toNat / 2 by omega]

theorem psign_lo {P N A Gx Gy z d k X Y i s y2 b : Int} (hR : (X, Y) = pmul P N A Gx Gy k) (hi : i = pinv k N) (hs : i * (z + X * d) % N = s) (hy : Y % 2 = y2) (h : s * 2 < N) (hb : b = y2) :
    (27 + b, X, s) = psign P N A Gx Gy z d k := by
  unfold psign
  rw [← hR, ← hi, hs, if_pos h, hb, ← hy]
theorem psign_hi {P N A Gx Gy z d k X Y i s y2 b : Int} (hR : (X, Y) = pmul P N A Gx Gy k) (hi : i = pinv k N) (hs : i * (z + X * d) % N = s) (hy : Y % 2 = y2) (h : ¬ s * 2 < N) (hb : b = 1 - y2) :
    (27 + b, X, N - s) = psign P N A Gx Gy z d k := by
  unfold psign
  rw [← hR, ← hi, hs, if_neg h, hb, ← hy]
section
variable {prog : Program} {w : World} {A : Around} {E : Value → Shared → Prop} {s : Shared} {a b : Int} {t u : Tok} {Q : Value → Shared → Prop}
theorem xor0 (h0 : 0 ≤ a) (h1 : a < 2) (h : ∀ b t k, b = a → 0 ≤ b → b < 2 → Q (.int b t) { s with toks := k }) : wpAny (model prog w) A (binaryOp .BitXor (.int a t) (.int 0 u)) Q E s := by
  refine xor_int ?_
  have : a = 0 ∨ a = 1 := by omega
  rcases this with rfl | rfl
  · exact h _ _ _ rfl (by decide) (by decide)
  · exact h _ _ _ rfl (by decide) (by decide)
theorem xor1 (h0 : 0 ≤ a) (h1 : a < 2) (h : ∀ b t k, b = 1 - a → 0 ≤ b → b < 2 → Q (.int b t) { s with toks := k }) : wpAny (model prog w) A (binaryOp .BitXor (.int a t) (.int 1 u)) Q E s := by
  refine xor_int ?_
  have : a = 0 ∨ a = 1 := by omega
  rcases this with rfl | rfl
  · exact h _ _ _ rfl (by decide) (by decide)
  · exact h _ _ _ rfl (by decide) (by decide)
theorem xorB (h0 : 0 ≤ a) (h1 : a < 2) (h2 : 0 ≤ b) (h3 : b < 2) (h : ∀ c t k, (c = 0 ↔ a = b) → 0 ≤ c → c < 2 → Q (.int c t) { s with toks := k }) : wpAny (model prog w) A (binaryOp .BitXor (.int a t) (.int b u)) Q E s := by
  refine xor_int ?_
  have ha : a = 0 ∨ a = 1 := by omega
  have hb : b = 0 ∨ b = 1 := by omega
  rcases ha with rfl | rfl <;> rcases hb with rfl | rfl <;> exact h _ _ _ (by decide) (by decide) (by decide)
end

theorem kind_pow3 : builtinKind "pow" = none := by decide +kernel
theorem plain_pow3 : plainId "pow" = true := by decide +kernel
theorem entry_pow3 : entryFor table "pow" = some Builtin.«pow» := entryFor_of_fast (by kernel_rfl)
theorem args_pow3 (a b c : Value) : argsOk "pow" ⟨[a, b, c], []⟩ := by unfold argsOk; kernel_rfl
theorem args_int_pow3 (a b c : Value) : argsOk "int.__pow__" ⟨[a, b, c], []⟩ := by unfold argsOk; kernel_rfl
theorem slot_pow3 : Slot "int" (Str.ofString "__pow__") "int.__pow__" := by
  have h := slot_int_pow
  rw [show PySem.dunder "pow" = Str.ofString "__pow__" from by decide +kernel] at h
  exact h
section
variable {prog : Program} {w : World} {A : Around} {E : Value → Shared → Prop} {s : Shared} {a e n : Int} {t u v : Tok} {Q : Value → Shared → Prop}
theorem call_int_pow3 (he : 0 ≤ e) (hn : 1 < n) (h : Q (.int (Builtin.powMod (a % n).toNat e.natAbs n.natAbs : Nat) s.toks) { s with toks := s.toks + 1 }) :
    wpAny (model prog w) A (call (.builtin "int.__pow__") [.int a t, .int e u, .int n v]) (fun v s' => v ≠ .notImplemented ∧ Q v s') E s := by
  refine wpAny_call_entry slot_int_pow (typeIs_int s a t) entry_int_pow ?_ (args_int_pow3 _ _ _)
  show wpAny _ _ (if (n == 0) = true then _ else _) _ _ s
  rw [if_neg (by simp; omega)]
  show wpAny _ _ (if (n.natAbs == 1) = true then _ else _) _ _ s
  rw [if_neg (by simp; omega)]
  show wpAny _ _ (if e < 0 then _ else _) _ _ s
  rw [if_neg (by omega)]
  show wpAny _ _ (retInt (if (decide (n < 0) && ((Builtin.powMod (a % (n.natAbs : Int)).toNat e.natAbs n.natAbs : Nat) : Int) != 0) = true then _ else _)) _ _ s
  rw [if_neg (by simp; omega)]
  have en : ((n.natAbs : Nat) : Int) = n := by omega
  rw [en]
  exact wpAny_ret_mkInt ⟨by simp, h⟩
theorem call_pow3 (he : 0 ≤ e) (hn : 1 < n) (h : Q (.int (Builtin.powMod (a % n).toNat e.natAbs n.natAbs : Nat) s.toks) { s with toks := s.toks + 1 }) :
    wpAny (model prog w) A (call (.builtin "pow") [.int a t, .int e u, .int n v]) Q E s := by
  refine call_function_entry kind_pow3 plain_pow3 entry_pow3 (args_pow3 _ _ _) ?_
  unfold Builtin.«pow»
  refine wpAny_bind (m := Builtin.Builtins.bindParams "pow" _ 2 _) (wpAny_pure ?_)
  refine wpAny_bind (wpAny_rule ?_)
  refine wpAny_bind (m := typeOf (.int a t)) (wpAny_pure ?_)
  show wpAny _ _ (typeLookup (.type "int") (Str.ofString "__pow__") >>= _) _ _ s
  refine wpAny_bind (m := typeLookup (.type "int") (Str.ofString "__pow__")) ?_
  rw [slot_pow3.lookup]
  refine wpAny_pure ?_
  show wpAny _ _ (callSpecial? (.int a t) (Str.ofString "__pow__") [.int e u, .int n v] >>= _) _ _ s
  refine wpAny_bind (wpAny_callSpecial?_slot (name := Str.ofString "__pow__") (typeIs_int s a t) slot_pow3 ?_)
  refine wpAny_mono (call_int_pow3 he hn h) (fun r s' hr => ?_) fun _ _ x => x
  obtain ⟨hr1, hr2⟩ := hr
  dsimp only
  rw [if_pos (by simpa using hr1)]
  exact wpAny_pure ⟨_, rfl, hr2⟩
end
theorem emod_pow (a n : Int) : ∀ k : Nat, (a % n) ^ k % n = a ^ k % n := by
  intro k
  induction k with
  | zero => rw [Int.pow_zero, Int.pow_zero]
  | succ k ih => rw [Int.pow_succ, Int.pow_succ, Int.mul_emod, ih, Int.emod_emod_of_dvd _ (Int.dvd_refl n), ← Int.mul_emod]
theorem powMod_step {b e m : Nat} : ∀ k q : Nat, (List.range k).reverse.foldl (fun p i => if e.testBit i then p * p % m * b % m else p * p % m) (b ^ q % m) = b ^ (q * 2 ^ k + e % 2 ^ k) % m := by
  intro k
  induction k with
  | zero => intro q; simp [Nat.mod_one]
  | succ k ih =>
    intro q
    rw [List.range_succ, List.reverse_append, List.reverse_singleton, List.singleton_append, List.foldl_cons]
    have hb : e % 2 ^ (k + 1) = e % 2 ^ k + 2 ^ k * (e / 2 ^ k % 2) := Nat.mod_pow_succ
    have ht : e.testBit k = (e / 2 ^ k % 2 == 1) := by
      rw [Nat.testBit_eq_decide_div_mod_eq]
      by_cases h : e / 2 ^ k % 2 = 1 <;> simp [h]
    rw [ht, hb]
    have h2 : e / 2 ^ k % 2 = 0 ∨ e / 2 ^ k % 2 = 1 := by omega
    have hsq : b ^ q % m * (b ^ q % m) % m = b ^ (2 * q) % m := by
      rw [← Nat.mul_mod, ← Nat.pow_add]
      congr 2
      omega
    rcases h2 with h | h
    · rw [h]
      simp only [show ((0 : Nat) == 1) = false from rfl, Bool.false_eq_true, if_false]
      rw [hsq, ih]
      congr 2
      rw [Nat.pow_succ, Nat.mul_comm 2 q, Nat.mul_assoc, Nat.mul_comm 2 (2 ^ k)]
      omega
    · rw [h]
      simp only [beq_self_eq_true, if_true]
      have hm : b ^ q % m * (b ^ q % m) % m * b % m = b ^ (2 * q + 1) % m := by
        rw [hsq, Nat.pow_succ, Nat.mul_mod, Nat.mod_mod, ← Nat.mul_mod]
      rw [hm, ih]
      congr 2
      rw [Nat.pow_succ, Nat.add_mul, Nat.mul_comm 2 q, Nat.mul_assoc, Nat.mul_comm 2 (2 ^ k)]
      omega
theorem powMod_eq (b e m : Nat) : Builtin.powMod b e m = b ^ e % m := by
  unfold Builtin.powMod
  have h := powMod_step (b := b) (e := e) (m := m) (Builtin.Int.intBits e) 0
  have hlt : e < 2 ^ Builtin.Int.intBits e := by
    have := intBits_le_iff (x := (e : Int)).mp (Nat.le_refl _)
    simpa using this
  rw [Nat.pow_zero, Nat.zero_mul, Nat.zero_add, Nat.mod_eq_of_lt hlt] at h
  exact h
theorem powMod_int {a e n : Int} (he : 0 ≤ e) (hn : 1 < n) : ((Builtin.powMod (a % n).toNat e.natAbs n.natAbs : Nat) : Int) = a ^ e.toNat % n := by
  have h1 : ((a % n).toNat : Int) = a % n := Int.toNat_of_nonneg (Int.emod_nonneg _ (by omega))
  rw [powMod_eq, Int.natCast_emod, Int.natCast_pow, h1, show ((n.natAbs : Nat) : Int) = n by omega, show e.natAbs = e.toNat by omega]
  exact emod_pow _ _ _
section
variable {prog : Program} {w : World} {A : Around} {E : Value → Shared → Prop} {s : Shared} {a e n : Int} {t u v : Tok} {Q : Value → Shared → Prop}
theorem powN3 (he : 0 ≤ e) (hn : 1 < n) (h : ∀ r t k, a ^ e.toNat % n = r → 0 ≤ r → r < n → Q (.int r t) { s with toks := k }) :
    wpAny (model prog w) A (call (.builtin "pow") [.int a t, .int e u, .int n v]) Q E s := by
  refine call_pow3 he hn ?_
  rw [powMod_int he hn]
  exact h _ _ _ rfl (Int.emod_nonneg _ (by omega)) (Int.emod_lt_of_pos _ (by omega))
end

def ResO (what : Value → Prop) (o : Option (Int × Int)) (r : Value) (nw : Led) : Prop :=
  match o with
  | none => what r ∧ nw = []
  | some T => Res2 T r nw

/-- a place where the walk is to stop -/
def Hold (P : Prop) : Prop := P
/-- the walk is not to stop -/
structure Pass : Prop where
theorem Hold.of {P : Prop} (h : Hold P) : P := h
section
variable {M : Model} {A : Around} {E : Value → Shared → Prop} {s : Shared} {h₀ : Heap} {L : Addr} {m : Str → Option Value} {news : Led}
theorem cutB {tree : Sem Bool} {Q : Bool → Shared → Prop} (_F : Fr h₀ L s.heap m) (_N : News h₀ L s.heap news) (cond : Prop)
    (h : ∀ Q' : Bool → Shared → Prop, Pass → (∀ b h' tk', Fr h₀ L h' m → News h₀ L h' news → (b = true ↔ cond) → Q' b { s with heap := h', toks := tk' }) → wpAny M A tree Q' E s)
    (k : ∀ b h' tk', Fr h₀ L h' m → News h₀ L h' news → (b = true ↔ cond) → Q b { s with heap := h', toks := tk' }) : wpAny M A tree Q E s := h Q ⟨⟩ k
theorem cutI {tree : Sem Value} {Q : Value → Shared → Prop} (_F : Fr h₀ L s.heap m) (_N : News h₀ L s.heap news) (φ : Int → Prop)
    (h : ∀ Q' : Value → Shared → Prop, Pass → (∀ y t h' tk', Fr h₀ L h' m → News h₀ L h' news → φ y → Q' (.int y t) { s with heap := h', toks := tk' }) → wpAny M A tree Q' E s)
    (k : ∀ y t h' tk', Fr h₀ L h' m → News h₀ L h' news → φ y → Q (.int y t) { s with heap := h', toks := tk' }) : wpAny M A tree Q E s := h Q ⟨⟩ k
end
theorem jp_len {a b : Str} {n : Int} (h0 : 0 ≤ n) (h1 : n < 10 ^ 10) (h : Str.empty.length + a.length + 10 + b.length ≤ sizeLine) : (Str.empty ++ a ++ Str.ofString (toString n) ++ b).length ≤ sizeLine :=
  Nat.le_trans (KT.len_app (KT.len_app (KT.len_app (Nat.le_refl _) (Nat.le_refl _)) (KT.len_num h0 h1)) (Nat.le_refl _)) h
theorem notin_iff {v : Int} : (![27, 28].any fun x => x == v) = true ↔ ¬ (v = 27 ∨ v = 28) := by
  by_cases h1 : v = 27
  · subst h1; simp
  · by_cases h2 : v = 28
    · subst h2; simp
    · simp [h1, h2]
      omega
section
variable {h₀ h' : Heap} {L : Addr} {m : Str → Option Value} {news led : Led} {s : Shared} {Q : Value → Shared → Prop} {tk' : Nat} {what : Value → Prop} {o : Option (Int × Int)}
theorem endO_none {v : Value} (hret : ∀ r nw h' tk', Fr h₀ L h' m → News h₀ L h' (nw ++ news) → ResO what o r nw → Q r { s with heap := h', toks := tk' })
    (F : Fr h₀ L h' m) (N : News h₀ L h' led) (hs : ∀ p ∈ news, p ∈ led) (e : o = none) (hw : what v) : Q v { s with heap := h', toks := tk' } :=
  hret _ [] _ _ F (news_sub N hs) (by subst e; exact ⟨hw, rfl⟩)
theorem endO_some {T : Int × Int} {X Y : Int} {D : Addr} {s1 s2 : Tok} {d : Nat} (hret : ∀ r nw h' tk', Fr h₀ L h' m → News h₀ L h' (nw ++ news) → ResO what o r nw → Q r { s with heap := h', toks := tk' })
    (F : Fr h₀ L h' m) (N : News h₀ L h' led) (hm : (D, tup2 X Y s1 s2 d) ∈ led) (hs : ∀ p ∈ news, p ∈ led) (e : o = some T) (eT : (X, Y) = T) (hX : Sm X) (hY : Sm Y) :
    Q (.ref D) { s with heap := h', toks := tk' } :=
  hret _ [_] _ _ F (news_add N hs hm) (by subst e; exact ⟨_, _, _, _, _, _, eT, hX, hY, rfl, rfl⟩)
end
theorem rec_none1 {P N A B Gx Gy z v r s : Int} (h : ¬ (v = 27 ∨ v = 28)) : precover P N A B Gx Gy z v r s = none := by
  unfold precover
  rw [if_pos h]
theorem rec_none2 {P N A B Gx Gy z v r s : Int} (h : recBad P N A B v r s = true) : precover P N A B Gx Gy z v r s = none := by
  unfold precover
  rw [if_pos h]
  split <;> rfl
theorem rec_some {P N A B Gx Gy z v r s y n u X Y : Int} {G S T U : Tri} (h : v = 27 ∨ v = 28) (h2 : ¬ recBad P N A B v r s = true) (hy : y = ybeta P A B v r) (hn : (N - z) % N = n) (hG : G = jmul P N A (Gx, Gy, 1) n) (hS : S = jmul P N A (r, y, 1) s)
    (hT : T = jadd P A G S) (hu : u = pinv r N) (hU : U = jmul P N A T u) (e : (X, Y) = fromJ P U) : precover P N A B Gx Gy z v r s = some (X, Y) := by
  subst hy hn hG hS hT hu hU
  rw [e]
  unfold precover
  rw [if_neg (by omega), if_neg h2]
theorem yb_1 {P A B v r c e b v2 b2 x : Int} (h1 : (r * r * r + A * r + B) % P = c) (h2 : (P + 1) / 4 = e) (h3 : c ^ e.toNat % P = b) (h4 : v % 2 = v2) (h5 : b % 2 = b2) (h6 : x = 0 ↔ v2 = b2) (h7 : x ≠ 0) : b = ybeta P A B v r := by
  subst h1 h2 h3 h4 h5
  unfold ybeta
  dsimp only
  rw [if_neg (fun k => h7 (h6.mpr k))]
theorem yb_2 {P A B v r c e b v2 b2 x : Int} (h1 : (r * r * r + A * r + B) % P = c) (h2 : (P + 1) / 4 = e) (h3 : c ^ e.toNat % P = b) (h4 : v % 2 = v2) (h5 : b % 2 = b2) (h6 : x = 0 ↔ v2 = b2) (h7 : x = 0) : P - b = ybeta P A B v r := by
  subst h1 h2 h3 h4 h5
  unfold ybeta
  dsimp only
  rw [if_pos (h6.mp h7)]
theorem rb_1 {P N A B v r s c y d : Int} (h1 : (r * r * r + A * r + B) % P = c) (hy : y = ybeta P A B v r) (h2 : (c - y * y) % P = d) (h3 : d ≠ 0) : true = true ↔ recBad P N A B v r s = true := by
  subst h1 hy h2
  exact ⟨fun _ => decide_eq_true (.inl h3), fun _ => rfl⟩
theorem rb_2 {P N A B v r s d : Int} (h2 : r % N = d) (h3 : d = 0) : true = true ↔ recBad P N A B v r s = true := ⟨fun _ => decide_eq_true (.inr (.inl (h2.trans h3))), fun _ => rfl⟩
theorem rb_3 {P N A B v r s d : Int} (h2 : s % N = d) (h3 : d = 0) : true = true ↔ recBad P N A B v r s = true := ⟨fun _ => decide_eq_true (.inr (.inr (h2.trans h3))), fun _ => rfl⟩
theorem rb_4 {P N A B v r s c y d d2 d3 : Int} (h1 : (r * r * r + A * r + B) % P = c) (hy : y = ybeta P A B v r) (h2 : (c - y * y) % P = d) (h3 : d = 0) (h4 : r % N = d2) (h5 : d2 ≠ 0) (h6 : s % N = d3) (h7 : d3 ≠ 0) : false = true ↔ recBad P N A B v r s = true := by
  subst h1 hy h2 h4 h6
  refine ⟨(fun k => nomatch k), fun k => ?_⟩
  rcases of_decide_eq_true k with k | k | k
  · exact absurd h3 k
  · exact absurd k h5
  · exact absurd k h7
theorem b_yes {b : Bool} {p : Prop} (h : b = true ↔ p) (hb : b = true) : p := h.mp hb
theorem b_no {b : Bool} {p : Prop} (h : b = true ↔ p) (hb : ¬ b = true) : ¬ p := fun k => hb (h.mpr k)
theorem b_no' {b : Bool} {p : Prop} (h : b = true ↔ p) (hb : b = false) : ¬ p := fun k => by rw [hb] at h; exact Bool.false_ne_true (h.mpr k)

/-- a call out of the law's own frame; Pre tells what the world at the start holds -/
def CallLawP (w : World) (mean : ExcName → Option Value) (mg mb : Str → Option Value) (f : Addr) (vs : List Value) (news : Led) (Pre : Heap → Prop) (out : Value → Led → Prop) : Prop :=
  ∀ (cn : Str) (cs : Scope) (a : Addr) (ccd : Value) (h₀ : Heap) (L : Addr) (m : Str → Option Value) (s : Shared) (Q E : Value → Shared → Prop),
    Below callerA h₀ [] h₀ → Fr h₀ L s.heap m → (hd.heap_39 w.params).In h₀ → News h₀ L s.heap news → Top hd.view_39 (looseW hd.view_39 []) mean mg mb h₀ → cs.kind = .function → Pre h₀ →
    (∀ r nw h' tk', Fr h₀ L h' m → News h₀ L h' (nw ++ news) → out r nw → Q r { s with heap := h', toks := tk' }) →
    wpAny (model PySem.Challenge.rw_iv0042_02.row.prog w) (callerA.deeper (envOf cn cs L a ccd)) (call (.ref f) vs) Q E s
abbrev CallLaw (w : World) (mean : ExcName → Option Value) (mg mb : Str → Option Value) (f : Addr) (vs : List Value) (news : Led) (out : Value → Led → Prop) : Prop := CallLawP w mean mg mb f vs news (fun _ => True) out
theorem callLawP_use {w : World} {mean : ExcName → Option Value} {mg mb : Str → Option Value} {f : Addr} {vs : List Value} {news : Led} {Pre : Heap → Prop} {out : Value → Led → Prop}
    {cn : Str} {cs : Scope} {a : Addr} {ccd : Value} {h₀ : Heap} {L : Addr} {m : Str → Option Value} {s : Shared} {Q E : Value → Shared → Prop}
    (B : Below callerA h₀ [] h₀) (F : Fr h₀ L s.heap m) (X : (hd.heap_39 w.params).In h₀) (N : News h₀ L s.heap news) (T : Top hd.view_39 (looseW hd.view_39 []) mean mg mb h₀) (hk : cs.kind = .function)
    (C : CallLawP w mean mg mb f vs news Pre out) (hp : Pre h₀)
    (ret : ∀ r nw h' tk', Fr h₀ L h' m → News h₀ L h' (nw ++ news) → out r nw → Q r { s with heap := h', toks := tk' }) :
    wpAny (model PySem.Challenge.rw_iv0042_02.row.prog w) (callerA.deeper (envOf cn cs L a ccd)) (call (.ref f) vs) Q E s :=
  C _ _ _ _ _ _ _ _ _ _ B F X N T hk hp ret

/-- what comes back is None or a tuple of two small ints -/
def ResV (S : Option (Int × Int)) (r : Value) (nw : Led) : Prop :=
  match S with
  | none => r = .none ∧ nw = []
  | some T => Res2 T r nw
section
variable {h₀ h' : Heap} {L : Addr} {m : Str → Option Value} {news led : Led} {s : Shared} {Q : Value → Shared → Prop} {tk' : Nat} {S : Option (Int × Int)}
theorem endV_none (hret : ∀ r nw h' tk', Fr h₀ L h' m → News h₀ L h' (nw ++ news) → ResV S r nw → Q r { s with heap := h', toks := tk' })
    (F : Fr h₀ L h' m) (N : News h₀ L h' led) (hs : ∀ p ∈ news, p ∈ led) (e : S = none) : Q .none { s with heap := h', toks := tk' } :=
  hret _ [] _ _ F (news_sub N hs) (by subst e; exact ⟨rfl, rfl⟩)
theorem endV_some {T : Int × Int} {X Y : Int} {D : Addr} {s1 s2 : Tok} {d : Nat} (hret : ∀ r nw h' tk', Fr h₀ L h' m → News h₀ L h' (nw ++ news) → ResV S r nw → Q r { s with heap := h', toks := tk' })
    (F : Fr h₀ L h' m) (N : News h₀ L h' led) (hm : (D, tup2 X Y s1 s2 d) ∈ led) (hs : ∀ p ∈ news, p ∈ led) (e : S = some T) (eT : (X, Y) = T) (hX : Sm X) (hY : Sm Y) :
    Q (.ref D) { s with heap := h', toks := tk' } :=
  hret _ [_] _ _ F (news_add N hs hm) (by subst e; exact ⟨_, _, _, _, _, _, eT, hX, hY, rfl, rfl⟩)
end

section
variable {prog : Program} {w : World} {A : Around} {E : Value → Shared → Prop} {s : Shared} {h₀ : Heap} {L : Addr} {news : Led} {Q : Value → Shared → Prop}
theorem eq_tup2 {d1 d2 : Addr} {x1 y1 x2 y2 : Int} {t1 t2 t3 t4 : Tok} {c c2 : Nat} (N : News h₀ L s.heap news) (hp : (d1, tup2 x1 y1 t1 t2 c) ∈ news) (hq : (d2, tup2 x2 y2 t3 t4 c2) ∈ news) (hu : A.units < cLine)
    (h : Q (.bool (decide ((x1, y1) = (x2, y2)))) s) : wpAny (model prog w) A (compareOp .Eq (.ref d1) (.ref d2)) Q E s := by
  refine SeqAt.eq_tupleAt (e := fun j => if j = 0 then x1 == x2 else y1 == y2) ⟨_, (N _ hp).1, rfl, _, rfl⟩ ⟨_, (N _ hq).1, rfl, _, rfl⟩ hu (fun j h1 h2 => ?_) ?_
  · have hj : j = 0 ∨ j = 1 := by simp at h1; omega
    rcases hj with rfl | rfl
    · exact SeqAt.EqAt.int_int _ _ _ _
    · exact SeqAt.EqAt.int_int _ _ _ _
  · have e : ((List.range (min (#[Value.int x1 t1, Value.int y1 t2]).size (#[Value.int x2 t3, Value.int y2 t4]).size)).all (fun j => if j = 0 then x1 == x2 else y1 == y2) && (#[Value.int x1 t1, Value.int y1 t2]).size == (#[Value.int x2 t3, Value.int y2 t4]).size) = decide ((x1, y1) = (x2, y2)) := by
      show ((List.range 2).all _ && _) = _
      by_cases hx : x1 = x2 <;> by_cases hy : y1 = y2 <;> simp [hx, hy, List.range_succ]
    rw [e]
    exact h
theorem ne_tup2 {d1 d2 : Addr} {x1 y1 x2 y2 : Int} {t1 t2 t3 t4 : Tok} {c c2 : Nat} (N : News h₀ L s.heap news) (hp : (d1, tup2 x1 y1 t1 t2 c) ∈ news) (hq : (d2, tup2 x2 y2 t3 t4 c2) ∈ news) (hu : A.units < cLine)
    (h : Q (.bool (decide ((x1, y1) ≠ (x2, y2)))) s) : wpAny (model prog w) A (compareOp .NotEq (.ref d1) (.ref d2)) Q E s := by
  refine SeqAt.RcNeAt.tuples (e := fun j => if j = 0 then x1 == x2 else y1 == y2) ⟨_, (N _ hp).1, rfl, _, rfl⟩ ⟨_, (N _ hq).1, rfl, _, rfl⟩ hu (fun j h1 h2 => ?_) prog w E Q ?_
  · have hj : j = 0 ∨ j = 1 := by simp at h1; omega
    rcases hj with rfl | rfl
    · exact SeqAt.EqAt.int_int _ _ _ _
    · exact SeqAt.EqAt.int_int _ _ _ _
  · have e : (!((List.range (min (#[Value.int x1 t1, Value.int y1 t2]).size (#[Value.int x2 t3, Value.int y2 t4]).size)).all (fun j => if j = 0 then x1 == x2 else y1 == y2) && (#[Value.int x1 t1, Value.int y1 t2]).size == (#[Value.int x2 t3, Value.int y2 t4]).size)) = decide ((x1, y1) ≠ (x2, y2)) := by
      show (!((List.range 2).all _ && _)) = _
      by_cases hx : x1 = x2 <;> by_cases hy : y1 = y2 <;> simp [hx, hy, List.range_succ]
    rw [e]
    exact h
theorem ne_tup3 {d1 d2 : Addr} {x1 y1 z1 x2 y2 z2 : Int} {t1 t2 t3 t4 t5 t6 : Tok} {c c2 : Nat} (N : News h₀ L s.heap news) (hp : (d1, tup3 x1 y1 z1 t1 t2 t5 c) ∈ news) (hq : (d2, tup3 x2 y2 z2 t3 t4 t6 c2) ∈ news) (hu : A.units < cLine)
    (h : Q (.bool (decide ((x1, y1, z1) ≠ (x2, y2, z2)))) s) : wpAny (model prog w) A (compareOp .NotEq (.ref d1) (.ref d2)) Q E s := by
  refine SeqAt.RcNeAt.tuples (e := fun j => if j = 0 then x1 == x2 else if j = 1 then y1 == y2 else z1 == z2) ⟨_, (N _ hp).1, rfl, _, rfl⟩ ⟨_, (N _ hq).1, rfl, _, rfl⟩ hu (fun j h1 h2 => ?_) prog w E Q ?_
  · have hj : j = 0 ∨ j = 1 ∨ j = 2 := by simp at h1; omega
    rcases hj with rfl | rfl | rfl
    · exact SeqAt.EqAt.int_int _ _ _ _
    · exact SeqAt.EqAt.int_int _ _ _ _
    · exact SeqAt.EqAt.int_int _ _ _ _
  · have e : (!((List.range (min (#[Value.int x1 t1, Value.int y1 t2, Value.int z1 t5]).size (#[Value.int x2 t3, Value.int y2 t4, Value.int z2 t6]).size)).all (fun j => if j = 0 then x1 == x2 else if j = 1 then y1 == y2 else z1 == z2) && (#[Value.int x1 t1, Value.int y1 t2, Value.int z1 t5]).size == (#[Value.int x2 t3, Value.int y2 t4, Value.int z2 t6]).size)) = decide ((x1, y1, z1) ≠ (x2, y2, z2)) := by
      show (!((List.range 3).all _ && _)) = _
      by_cases hx : x1 = x2 <;> by_cases hy : y1 = y2 <;> by_cases hz : z1 = z2 <;> simp [hx, hy, hz, List.range_succ]
    rw [e]
    exact h
end

theorem lsI_none {P A x1 y1 x2 y2 e : Int} (hx : x1 = x2) (he : (y1 + y2) % P = e) (h0 : e = 0) : lsumI P A (some (x1, y1)) (some (x2, y2)) = none := by
  unfold lsumI
  dsimp only
  rw [if_pos ⟨hx, he.trans h0⟩]
theorem lsI_dbl {P A x1 y1 x2 y2 d i X Y : Int} (hn : ¬ (x1 = x2 ∧ (y1 + y2) % P = 0)) (e : (x1, y1) = (x2, y2)) (h1 : 2 * y1 % P = d) (h2 : d ^ (P - 2).toNat % P = i)
    (h3 : ((3 * x1 * x1 + A) * i * ((3 * x1 * x1 + A) * i) - x1 - x2) % P = X) (h4 : ((3 * x1 * x1 + A) * i * (x1 - X) - y1) % P = Y) : lsumI P A (some (x1, y1)) (some (x2, y2)) = some (X, Y) := by
  subst h1 h2 h3 h4
  unfold lsumI
  dsimp only
  rw [if_neg hn, if_pos e]
theorem lsI_add {P A x1 y1 x2 y2 d i X Y : Int} (hn : ¬ (x1 = x2 ∧ (y1 + y2) % P = 0)) (e : ¬ (x1, y1) = (x2, y2)) (h1 : (x2 - x1) % P = d) (h2 : d ^ (P - 2).toNat % P = i)
    (h3 : ((y2 - y1) * i * ((y2 - y1) * i) - x1 - x2) % P = X) (h4 : ((y2 - y1) * i * (x1 - X) - y1) % P = Y) : lsumI P A (some (x1, y1)) (some (x2, y2)) = some (X, Y) := by
  subst h1 h2 h3 h4
  unfold lsumI
  dsimp only
  rw [if_neg hn, if_neg e]
theorem ls_n1 {x1 x2 e : Int} (h : x1 ≠ x2) : ¬ (x1 = x2 ∧ e = 0) := fun k => h k.1
theorem ls_n2 {x1 x2 y P e : Int} (he : y % P = e) (h : e ≠ 0) : ¬ (x1 = x2 ∧ y % P = 0) := fun k => h (he.symm.trans k.2)

end
section


theorem safe_ok {w mean mg mb} {v : Int} {t : Tok} {news : Led} : CallOk w mean mg mb 21 1 [.int v t] news (ResI v) := by
  k_with_none
  w_top off
  k_with "binaryOp Mod int int" => (k_here; refine' modN (by first | decide | assumption | omega) ?_; k_whole; intro wmr wmt9 wmk9 wme wml wmu)
  k_with "binaryOp FloorDiv int int" => (k_here; refine' divN (by first | decide | assumption | omega) (by first | decide | omega) ?_; k_whole; intro wmr wmt9 wmk9 wme)
  k_with "binaryOp Mult int int" => (k_here; refine' mulT (by first | exact okL (by decide) (by decide) | exact okR (by decide) (by decide) | exact okLs (by assumption) (by assumption) | exact okRs (by assumption) (by assumption) | exact okLP (by assumption) (by assumption) (by assumption) | exact okRP (by assumption) (by assumption) (by assumption) | exact okL (by omega) (by omega) | exact okR (by omega) (by omega)) ?_; k_whole; intro wmt9 wmk9)
  k_with "binaryOp Pow int int" => (k_here; (first | refine' pow2 (by omega) (by omega) ?_ | refine' pow3 (by omega) (by omega) ?_ | refine' pow4 (by omega) (by omega) ?_); k_whole; intro wmt9 wmk9)
  k_with "binaryOp Add int int" => (k_here; refine' addT ?_; k_whole; intro wmt9 wmk9)
  k_with "binaryOp Sub int int" => (k_here; refine' subT ?_; k_whole; intro wmt9 wmk9)
  k_with "binaryOp LShift int int" => (k_here; refine' shl8 (by assumption) (by assumption) (by (simp only [Array.length_toList] at *; omega)) ?_; k_whole)
  k_with "binaryOp Mult int int" => (k_here; refine' mul_int ?_ (by first | exact okL (by decide) (by decide) | exact okR (by decide) (by decide) | exact okLs (by assumption) (by assumption) | exact okRs (by assumption) (by assumption) | exact okLP (by assumption) (by assumption) (by assumption) | exact okRP (by assumption) (by assumption) (by assumption) | exact okL (by omega) (by omega) | exact okR (by omega) (by omega) | exact egl_mul (by assumption) (by assumption) (by assumption) (by assumption) (by assumption)); k_whole)
  unfold CallOk
  k_fill
  intro dp un gd cn cs a ccd cl outer A₀ base h₀ L m s Q E B F X NN T hk hd hu hret
  refine wpAny_call ?_
  k_dflt cell_enter
  k_steps
  all_goals (refine' endI (Q := Q) (s := s) hret ?eF ?eN ?eS ?eE; (case eF => assumption); (case eN => assumption); (case eS => kcj_all); (case eE => rfl))



theorem bytes_ok {w mean mg mb} {arr : Array UInt8} {t : Tok} {news : Led} (hs : arr.size ≤ 64) :
   CallOk w mean mg mb 28 2 [.bytes arr t] news (ResI (bval (KBw.bInts arr))) := by
  k_with_none
  w_top off
  k_with "binaryOp Mod int int" => (k_here; refine' modN (by first | decide | assumption | omega) ?_; k_whole; intro wmr wmt9 wmk9 wme wml wmu)
  k_with "binaryOp FloorDiv int int" => (k_here; refine' divN (by first | decide | assumption | omega) (by first | decide | omega) ?_; k_whole; intro wmr wmt9 wmk9 wme)
  k_with "binaryOp Mult int int" => (k_here; refine' mulT (by first | exact okL (by decide) (by decide) | exact okR (by decide) (by decide) | exact okLs (by assumption) (by assumption) | exact okRs (by assumption) (by assumption) | exact okLP (by assumption) (by assumption) (by assumption) | exact okRP (by assumption) (by assumption) (by assumption) | exact okL (by omega) (by omega) | exact okR (by omega) (by omega)) ?_; k_whole; intro wmt9 wmk9)
  k_with "binaryOp Pow int int" => (k_here; (first | refine' pow2 (by omega) (by omega) ?_ | refine' pow3 (by omega) (by omega) ?_ | refine' pow4 (by omega) (by omega) ?_); k_whole; intro wmt9 wmk9)
  k_with "binaryOp Add int int" => (k_here; refine' addT ?_; k_whole; intro wmt9 wmk9)
  k_with "binaryOp Sub int int" => (k_here; refine' subT ?_; k_whole; intro wmt9 wmk9)
  k_with "binaryOp LShift int int" => (k_here; refine' shl8 (by assumption) (by assumption) (by (simp only [Array.length_toList] at *; omega)) ?_; k_whole)
  k_with "binaryOp Mult int int" => (k_here; refine' mul_int ?_ (by first | exact okL (by decide) (by decide) | exact okR (by decide) (by decide) | exact okLs (by assumption) (by assumption) | exact okRs (by assumption) (by assumption) | exact okLP (by assumption) (by assumption) (by assumption) | exact okRP (by assumption) (by assumption) (by assumption) | exact okL (by omega) (by omega) | exact okR (by omega) (by omega) | exact egl_mul (by assumption) (by assumption) (by assumption) (by assumption) (by assumption)); k_whole)
  k_with "call ref" => (k_here; (with_reducible show wpAny _ _ (call (Value.ref 21) _) _ _ _); k_dflt (refine' callOk_use (by k_asm) (by k_asm) (by k_asm) (by k_asm) (by k_asm) (by first | exact rfl | assumption) (safe_ok) (by ktr_room) (by ktr_units) ?_; rintro wr9 wnw9 wh9 wtk9 wF9 wN9 ⟨wt9, we91, we92⟩; subst we91; subst we92; (try simp only [List.cons_append, List.nil_append] at wN9); (try k_sweep); (try dsimp only); (try k_fold)))
  unfold CallOk
  k_fill
  intro dp un gd cn cs a ccd cl outer A₀ base h₀ L m s Q E B F X NN T hk hd hu hret
  refine wpAny_call ?_
  k_dflt cell_enter
  k_with "pyIter bytes" => k_state (fun pre o => o = bval pre ∧ 0 ≤ o ∧ o < 256 ^ pre.length) "o"
  k_with "state" => first | exact bval_nil | exact bval_step (by assumption) (by assumption) (by assumption) (by assumption) (by assumption)
  k_steps
  all_goals (refine' endI (Q := Q) (s := s) hret ?eF ?eN ?eS ?eE; (case eF => assumption); (case eN => assumption); (case eS => kcj_all); (case eE => assumption))

theorem inv_ok {w mean mg mb} {x n : Int} {t u : Tok} {news : Led} (hs : 1 < n ∧ n < 2 ^ 20) :
   CallOk w mean mg mb 35 1 [.int x t, .int n u] news (ResS (pinv x n)) := by
  k_with_none
  w_top off
  k_with "binaryOp Mod int int" => (k_here; refine' modN (by first | decide | assumption | omega) ?_; k_whole; intro wmr wmt9 wmk9 wme wml wmu)
  k_with "binaryOp FloorDiv int int" => (k_here; refine' divN (by first | decide | assumption | omega) (by first | decide | omega) ?_; k_whole; intro wmr wmt9 wmk9 wme)
  k_with "binaryOp Mult int int" => (k_here; refine' mulT (by first | exact okL (by decide) (by decide) | exact okR (by decide) (by decide) | exact okLs (by assumption) (by assumption) | exact okRs (by assumption) (by assumption) | exact okLP (by assumption) (by assumption) (by assumption) | exact okRP (by assumption) (by assumption) (by assumption) | exact okL (by omega) (by omega) | exact okR (by omega) (by omega)) ?_; k_whole; intro wmt9 wmk9)
  k_with "binaryOp Pow int int" => (k_here; (first | refine' pow2 (by omega) (by omega) ?_ | refine' pow3 (by omega) (by omega) ?_ | refine' pow4 (by omega) (by omega) ?_); k_whole; intro wmt9 wmk9)
  k_with "binaryOp Add int int" => (k_here; refine' addT ?_; k_whole; intro wmt9 wmk9)
  k_with "binaryOp Sub int int" => (k_here; refine' subT ?_; k_whole; intro wmt9 wmk9)
  k_with "binaryOp LShift int int" => (k_here; refine' shl8 (by assumption) (by assumption) (by (simp only [Array.length_toList] at *; omega)) ?_; k_whole)
  k_with "binaryOp Mult int int" => (k_here; refine' mul_int ?_ (by first | exact okL (by decide) (by decide) | exact okR (by decide) (by decide) | exact okLs (by assumption) (by assumption) | exact okRs (by assumption) (by assumption) | exact okLP (by assumption) (by assumption) (by assumption) | exact okRP (by assumption) (by assumption) (by assumption) | exact okL (by omega) (by omega) | exact okR (by omega) (by omega) | exact egl_mul (by assumption) (by assumption) (by assumption) (by assumption) (by assumption)); k_whole)
  k_with "call ref" => (k_here; (with_reducible show wpAny _ _ (call (Value.ref 21) _) _ _ _); k_dflt (refine' callOk_use (by k_asm) (by k_asm) (by k_asm) (by k_asm) (by k_asm) (by first | exact rfl | assumption) (safe_ok) (by ktr_room) (by ktr_units) ?_; rintro wr9 wnw9 wh9 wtk9 wF9 wN9 ⟨wt9, we91, we92⟩; subst we91; subst we92; (try simp only [List.cons_append, List.nil_append] at wN9); (try k_sweep); (try dsimp only); (try k_fold)))
  unfold CallOk
  k_fill
  intro dp un gd cn cs a ccd cl outer A₀ base h₀ L m s Q E B F X NN T hk hd hu hret
  obtain ⟨hn1, hn2⟩ := hs
  have hn0 : 0 < n := by omega
  refine wpAny_call ?_
  k_dflt cell_enter
  k_with "exec While Compare cons nil" => k_while (fun _ lm hm low high => EglI x n lm hm low high) (fun _ _ _ low _ => low.toNat) "lm" "hm" "low" "high"
  k_with "state" => first | exact egl_start (by assumption) (by assumption) | exact egl_turn (by assumption) (by assumption) (by assumption) (by assumption) (by assumption) (by assumption)
  k_with "measure" => exact egl_less (by assumption) (by assumption)
  k_steps
  all_goals (refine' endS (Q := Q) (s := s) hret ?eF ?eN ?eS ?eE ?e1; (case eF => assumption); (case eN => assumption); (case eS => kcj_all); (case eE => first | exact egl_end (by assumption) (by assumption) (by assumption) (by assumption) | exact pinv_zero (by assumption)); (case e1 => omega))

end
section

theorem jdouble_ok {w mean mg mb p cv x y z P N A B Gx Gy} {t1 t2 t3 u1 u2 u3 u4 u5 u6 c c'} {news : Led}
   (hp : (p, tup3 x y z t1 t2 t3 c) ∈ news) (hc : (cv, tup6 P N A B Gx Gy u1 u2 u3 u4 u5 u6 c') ∈ news) (hs : (0 < P ∧ Sm P ∧ Sm A) ∧ Sm x ∧ Sm y ∧ Sm z) :
   CallOk w mean mg mb 49 1 [.ref p, .ref cv] news (Res3 (jdbl P A (x, y, z))) := by
  k_with_none
  w_top off
  k_with "binaryOp Mod int int" => (k_here; refine' modN (by first | decide | assumption | omega) ?_; k_whole; intro wmr wmt9 wmk9 wme wml wmu)
  k_with "binaryOp FloorDiv int int" => (k_here; refine' divN (by first | decide | assumption | omega) (by first | decide | omega) ?_; k_whole; intro wmr wmt9 wmk9 wme)
  k_with "binaryOp Mult int int" => (k_here; refine' mulT (by first | exact okL (by decide) (by decide) | exact okR (by decide) (by decide) | exact okLs (by assumption) (by assumption) | exact okRs (by assumption) (by assumption) | exact okLP (by assumption) (by assumption) (by assumption) | exact okRP (by assumption) (by assumption) (by assumption) | exact okL (by omega) (by omega) | exact okR (by omega) (by omega)) ?_; k_whole; intro wmt9 wmk9)
  k_with "binaryOp Pow int int" => (k_here; (first | refine' pow2 (by omega) (by omega) ?_ | refine' pow3 (by omega) (by omega) ?_ | refine' pow4 (by omega) (by omega) ?_); k_whole; intro wmt9 wmk9)
  k_with "binaryOp Add int int" => (k_here; refine' addT ?_; k_whole; intro wmt9 wmk9)
  k_with "binaryOp Sub int int" => (k_here; refine' subT ?_; k_whole; intro wmt9 wmk9)
  unfold CallOk
  k_fill
  intro dp un gd cn cs a ccd cl outer A₀ base h₀ L m s Q E B F X NN T hk hd hu hret
  obtain ⟨⟨hP0, ⟨hP1, hP2⟩, hA1, hA2⟩, ⟨hx1, hx2⟩, ⟨hy1, hy2⟩, hz1, hz2⟩ := hs
  refine wpAny_call ?_
  k_dflt cell_enter
  k_steps
  all_goals (refine' end3 (Q := Q) (s := s) hret ?eF ?eN ?eM ?eS ?eE ?e1 ?e2 ?e3; (case eF => assumption); (case eN => assumption); (case eM => k_mem); (case eS => kcj_all); (case eE => (simp only [jdbl, *]; try rfl)); (case e1 => first | exact sm_of (by assumption) (by assumption) (by assumption) | exact ⟨by assumption, by assumption⟩ | omega); (case e2 => first | exact sm_of (by assumption) (by assumption) (by assumption) | exact ⟨by assumption, by assumption⟩ | omega); (case e3 => first | exact sm_of (by assumption) (by assumption) (by assumption) | exact ⟨by assumption, by assumption⟩ | omega))



theorem jadd_ok {w mean mg mb p q cv x y z x' y' z' P N A B Gx Gy} {t1 t2 t3 t4 t5 t6 u1 u2 u3 u4 u5 u6 c c' c''} {news : Led}
   (hp : (p, tup3 x y z t1 t2 t3 c) ∈ news) (hq : (q, tup3 x' y' z' t4 t5 t6 c'') ∈ news) (hc : (cv, tup6 P N A B Gx Gy u1 u2 u3 u4 u5 u6 c') ∈ news) (hs : (0 < P ∧ Sm P ∧ Sm A) ∧ (Sm x ∧ Sm y ∧ Sm z) ∧ Sm x' ∧ Sm y' ∧ Sm z') :
   CallOk w mean mg mb 56 2 [.ref p, .ref q, .ref cv] news (Res3 (jadd P A (x, y, z) (x', y', z'))) := by
  k_with_none
  w_top off
  k_with "binaryOp Mod int int" => (k_here; refine' modN (by first | decide | assumption | omega) ?_; k_whole; intro wmr wmt9 wmk9 wme wml wmu)
  k_with "binaryOp FloorDiv int int" => (k_here; refine' divN (by first | decide | assumption | omega) (by first | decide | omega) ?_; k_whole; intro wmr wmt9 wmk9 wme)
  k_with "binaryOp Mult int int" => (k_here; refine' mulT (by first | exact okL (by decide) (by decide) | exact okR (by decide) (by decide) | exact okLs (by assumption) (by assumption) | exact okRs (by assumption) (by assumption) | exact okLP (by assumption) (by assumption) (by assumption) | exact okRP (by assumption) (by assumption) (by assumption) | exact okL (by omega) (by omega) | exact okR (by omega) (by omega)) ?_; k_whole; intro wmt9 wmk9)
  k_with "binaryOp Pow int int" => (k_here; (first | refine' pow2 (by omega) (by omega) ?_ | refine' pow3 (by omega) (by omega) ?_ | refine' pow4 (by omega) (by omega) ?_); k_whole; intro wmt9 wmk9)
  k_with "binaryOp Add int int" => (k_here; refine' addT ?_; k_whole; intro wmt9 wmk9)
  k_with "binaryOp Sub int int" => (k_here; refine' subT ?_; k_whole; intro wmt9 wmk9)
  k_with "call ref" => (k_here; (with_reducible show wpAny _ _ (call (Value.ref 49) _) _ _ _); k_dflt (refine' callOk_use (by k_asm) (by k_asm) (by k_asm) (by k_asm) (by k_asm) (by first | exact rfl | assumption) (jdouble_ok (by k_mem) (by k_mem) (by ((repeat' (first | assumption | with_reducible apply And.intro)); all_goals omega))) (by ktr_room) (by ktr_units) ?_; rintro wr9 wnw9 wh9 wtk9 wF9 wN9 ⟨wD9, wX9, wY9, wZ9, ws91, ws92, ws93, wd9, we9, ⟨wX9l, wX9u⟩, ⟨wY9l, wY9u⟩, ⟨wZ9l, wZ9u⟩, we91, we92⟩; subst we91; subst we92; (try simp only [List.cons_append, List.nil_append] at wN9); (try k_sweep); (try dsimp only); (try k_fold)))
  unfold CallOk
  k_fill
  intro dp un gd cn cs a ccd cl outer A₀ base h₀ L m s Q E B F X NN T hk hd hu hret
  obtain ⟨⟨hP0, ⟨hP1, hP2⟩, hA1, hA2⟩, ⟨⟨hx1, hx2⟩, ⟨hy1, hy2⟩, hz1, hz2⟩, ⟨hx1', hx2'⟩, ⟨hy1', hy2'⟩, hz1', hz2'⟩ := hs
  refine wpAny_call ?_
  k_dflt cell_enter
  k_steps
  all_goals (refine' end3 (Q := Q) (s := s) hret ?eF ?eN ?eM ?eS ?eE ?e1 ?e2 ?e3; (case eF => assumption); (case eN => assumption); (case eM => k_mem); (case eS => kcj_all); (case eE => (simp only [jadd, *]; try rfl)); (case e1 => first | exact sm_of (by assumption) (by assumption) (by assumption) | exact ⟨by assumption, by assumption⟩ | omega); (case e2 => first | exact sm_of (by assumption) (by assumption) (by assumption) | exact ⟨by assumption, by assumption⟩ | omega); (case e3 => first | exact sm_of (by assumption) (by assumption) (by assumption) | exact ⟨by assumption, by assumption⟩ | omega))

end
section



def JmulAt (w : World) (mean : ExcName → Option Value) (mg mb : Str → Option Value) (k : Nat) : Prop :=
  ∀ {a cv : Addr} {x y z P N A B Gx Gy n : Int} {t1 t2 t3 u1 u2 u3 u4 u5 u6 tn : Tok} {c c' : Nat} {news : Led},
   (a, tup3 x y z t1 t2 t3 c) ∈ news → (cv, tup6 P N A B Gx Gy u1 u2 u3 u4 u5 u6 c') ∈ news → (0 < P ∧ Sm P ∧ Sm A) ∧ (Sm x ∧ Sm y ∧ Sm z) ∧ (1 < N ∧ 0 ≤ n ∧ n < N ∧ n < 2 ^ k) →
   CallOk w mean mg mb 70 (k + 4) [.ref a, .int n tn, .ref cv] news (Res3 (jmul P N A (x, y, z) n))
theorem jmulAt_use {w mean mg mb k} (H : JmulAt w mean mg mb k) {a cv : Addr} {x y z P N A B Gx Gy n : Int} {t1 t2 t3 u1 u2 u3 u4 u5 u6 tn : Tok} {c c' : Nat} {news : Led}
   (ha : (a, tup3 x y z t1 t2 t3 c) ∈ news) (hc : (cv, tup6 P N A B Gx Gy u1 u2 u3 u4 u5 u6 c') ∈ news) (hs : (0 < P ∧ Sm P ∧ Sm A) ∧ (Sm x ∧ Sm y ∧ Sm z) ∧ (1 < N ∧ 0 ≤ n ∧ n < N ∧ n < 2 ^ k)) :
   CallOk w mean mg mb 70 (k + 4) [.ref a, .int n tn, .ref cv] news (Res3 (jmul P N A (x, y, z) n)) := H ha hc hs
theorem jmul_end6 {P N A x y z n r : Int} {T : Tri} (hr : n % N = r) (hT : T = jmul P N A (x, y, z) r) : T = jmul P N A (x, y, z) n := by subst hr hT; exact jmul_mod


theorem pow_two_succ (k : Nat) : (2 : Int) ^ (k + 1) = 2 * 2 ^ k := by rw [Int.pow_succ]; omega
/-- how a way of jmul ends -/
theorem jmul_end1 {P N A x y z n : Int} (h : y = 0) : ((0 : Int), (0 : Int), (1 : Int)) = jmul P N A (x, y, z) n := by subst h; exact jmul_inf.symm
theorem jmul_end2 {P N A x y z n : Int} (h : n = 0) : ((0 : Int), (0 : Int), (1 : Int)) = jmul P N A (x, y, z) n := by subst h; exact jmul_zero.symm
theorem jmul_end3 {P N A x y z n : Int} (h : n = 1) (hN : 1 < N) (hy : y ≠ 0) : (x, y, z) = jmul P N A (x, y, z) n := by subst h; exact (jmul_one hN hy).symm
theorem jmul_end4 {P N A x y z n r q : Int} {T U : Tri} (hy : y ≠ 0) (h0 : n ≠ 0) (h1 : n ≠ 1) (h2 : 0 ≤ n) (hN : n < N) (hr : n / 2 = r) (hq : n % 2 = q) (e : q = 0) (hT : T = jmul P N A (x, y, z) r) (hU : U = jdbl P A T) :
    U = jmul P N A (x, y, z) n := by subst hr hT hU e; exact (jmul_even hy (by omega) hN hq).symm
theorem jmul_end5 {P N A x y z n r q : Int} {T U V : Tri} (hy : y ≠ 0) (h0 : n ≠ 0) (h1 : n ≠ 1) (h2 : 0 ≤ n) (hN : n < N) (hr : n / 2 = r) (hq : n % 2 = q) (e : q = 1) (hT : T = jmul P N A (x, y, z) r) (hU : U = jdbl P A T) (hV : V = jadd P A U (x, y, z)) :
    V = jmul P N A (x, y, z) n := by subst hr hT hU hV e; exact (jmul_odd hy (by omega) hN hq).symm
theorem jmulAt (w mean mg mb) : ∀ k, JmulAt w mean mg mb k := by
  k_with_none
  w_top off
  k_with "binaryOp Mod int int" => (k_here; refine' modN (by first | decide | assumption | omega) ?_; k_whole; intro wmr wmt9 wmk9 wme wml wmu)
  k_with "binaryOp FloorDiv int int" => (k_here; refine' divN (by first | decide | assumption | omega) (by first | decide | omega) ?_; k_whole; intro wmr wmt9 wmk9 wme)
  k_with "binaryOp Mult int int" => (k_here; refine' mulT (by first | exact okL (by decide) (by decide) | exact okR (by decide) (by decide) | exact okLs (by assumption) (by assumption) | exact okRs (by assumption) (by assumption) | exact okLP (by assumption) (by assumption) (by assumption) | exact okRP (by assumption) (by assumption) (by assumption) | exact okL (by omega) (by omega) | exact okR (by omega) (by omega)) ?_; k_whole; intro wmt9 wmk9)
  k_with "binaryOp Pow int int" => (k_here; (first | refine' pow2 (by omega) (by omega) ?_ | refine' pow3 (by omega) (by omega) ?_ | refine' pow4 (by omega) (by omega) ?_); k_whole; intro wmt9 wmk9)
  k_with "binaryOp Add int int" => (k_here; refine' addT ?_; k_whole; intro wmt9 wmk9)
  k_with "binaryOp Sub int int" => (k_here; refine' subT ?_; k_whole; intro wmt9 wmk9)
  k_with "call ref" => (k_here; (with_reducible show wpAny _ _ (call (Value.ref 49) _) _ _ _); k_dflt (refine' callOk_use (by k_asm) (by k_asm) (by k_asm) (by k_asm) (by k_asm) (by first | exact rfl | assumption) (jdouble_ok (by k_mem) (by k_mem) (by ((repeat' (first | assumption | with_reducible apply And.intro)); all_goals omega))) (by ktr_room) (by ktr_units) ?_; rintro wr9 wnw9 wh9 wtk9 wF9 wN9 ⟨wD9, wX9, wY9, wZ9, ws91, ws92, ws93, wd9, we9, ⟨wX9l, wX9u⟩, ⟨wY9l, wY9u⟩, ⟨wZ9l, wZ9u⟩, we91, we92⟩; subst we91; subst we92; (try simp only [List.cons_append, List.nil_append] at wN9); (try k_sweep); (try dsimp only); (try k_fold)))
  k_with "call ref" => (k_here; (with_reducible show wpAny _ _ (call (Value.ref 56) _) _ _ _); k_dflt (refine' callOk_use (by k_asm) (by k_asm) (by k_asm) (by k_asm) (by k_asm) (by first | exact rfl | assumption) (jadd_ok (by k_mem) (by k_mem) (by k_mem) (by ((repeat' (first | assumption | with_reducible apply And.intro)); all_goals omega))) (by ktr_room) (by ktr_units) ?_; rintro wr9 wnw9 wh9 wtk9 wF9 wN9 ⟨wD9, wX9, wY9, wZ9, ws91, ws92, ws93, wd9, we9, ⟨wX9l, wX9u⟩, ⟨wY9l, wY9u⟩, ⟨wZ9l, wZ9u⟩, we91, we92⟩; subst we91; subst we92; (try simp only [List.cons_append, List.nil_append] at wN9); (try k_sweep); (try dsimp only); (try k_fold)))
  k_with "call ref" => (k_here; (with_reducible show wpAny _ _ (call (Value.ref 70) _) _ _ _); (rename JmulAt _ _ _ _ _ => wih9); k_dflt (refine' callOk_use (by k_asm) (by k_asm) (by k_asm) (by k_asm) (by k_asm) (by first | exact rfl | assumption) ((jmulAt_use wih9 (by k_mem) (by k_mem) (by ((repeat' (first | assumption | with_reducible apply And.intro)); all_goals omega)))) (by ktr_room) (by ktr_units) ?_; rintro wr9 wnw9 wh9 wtk9 wF9 wN9 ⟨wD9, wX9, wY9, wZ9, ws91, ws92, ws93, wd9, we9, ⟨wX9l, wX9u⟩, ⟨wY9l, wY9u⟩, ⟨wZ9l, wZ9u⟩, we91, we92⟩; subst we91; subst we92; (try simp only [List.cons_append, List.nil_append] at wN9); (try k_sweep); (try dsimp only); (try k_fold)))
  intro k
  induction k with
  | zero =>
    intro a cv x y z P N A B Gx Gy n t1 t2 t3 u1 u2 u3 u4 u5 u6 tn c c' news ha hc hs
    unfold CallOk
    k_fill
    intro dp un gd cn cs a9 ccd cl outer A₀ base h₀ L m s Q E B F X NN T hk hd hu hret
    obtain ⟨⟨hP0, ⟨hP1, hP2⟩, hA1, hA2⟩, ⟨⟨hx1, hx2⟩, ⟨hy1, hy2⟩, hz1, hz2⟩, hN, hn0, hn1, hn2⟩ := hs
    have hn : n = 0 := by have : (2 : Int) ^ 0 = 1 := rfl; omega
    refine wpAny_call ?_
    k_dflt cell_enter
    k_steps
    all_goals first | (exfalso; omega) | (refine' end3 (Q := Q) (s := s) hret ?eF ?eN ?eM ?eS ?eE ?e1 ?e2 ?e3; (case eF => assumption); (case eN => assumption); (case eM => k_mem); (case eS => kcj_all); (case eE => exact jmul_end2 hn); (case e1 => first | exact sm_of (by assumption) (by assumption) (by assumption) | exact ⟨by assumption, by assumption⟩ | omega); (case e2 => first | exact sm_of (by assumption) (by assumption) (by assumption) | exact ⟨by assumption, by assumption⟩ | omega); (case e3 => first | exact sm_of (by assumption) (by assumption) (by assumption) | exact ⟨by assumption, by assumption⟩ | omega))
  | succ k ih =>
    intro a cv x y z P N A B Gx Gy n t1 t2 t3 u1 u2 u3 u4 u5 u6 tn c c' news ha hc hs
    rw [pow_two_succ] at hs
    unfold CallOk
    k_fill
    intro dp un gd cn cs a9 ccd cl outer A₀ base h₀ L m s Q E B F X NN T hk hd hu hret
    obtain ⟨⟨hP0, ⟨hP1, hP2⟩, hA1, hA2⟩, ⟨⟨hx1, hx2⟩, ⟨hy1, hy2⟩, hz1, hz2⟩, hN, hn0, hn1, hn2⟩ := hs
    refine wpAny_call ?_
    k_dflt cell_enter
    k_steps
    all_goals first | (exfalso; omega) | (refine' end3 (Q := Q) (s := s) hret ?eF ?eN ?eM ?eS ?eE ?e1 ?e2 ?e3; (case eF => assumption); (case eN => assumption); (case eM => k_mem); (case eS => kcj_all); (case eE => first | exact jmul_end1 (by assumption) | exact jmul_end2 (by assumption) | exact jmul_end3 (by assumption) (by assumption) (by assumption) | exact jmul_end4 (by assumption) (by assumption) (by assumption) (by assumption) (by assumption) (by assumption) (by assumption) (by assumption) (by assumption) (by assumption) | exact jmul_end5 (by assumption) (by assumption) (by assumption) (by assumption) (by assumption) (by assumption) (by assumption) (by assumption) (by assumption) (by assumption) (by assumption) | (trace_state; fail "here")); (case e1 => first | exact sm_of (by assumption) (by assumption) (by assumption) | exact ⟨by assumption, by assumption⟩ | omega); (case e2 => first | exact sm_of (by assumption) (by assumption) (by assumption) | exact ⟨by assumption, by assumption⟩ | omega); (case e3 => first | exact sm_of (by assumption) (by assumption) (by assumption) | exact ⟨by assumption, by assumption⟩ | omega))

theorem jmul_ok {w mean mg mb} {a cv : Addr} {x y z P N A B Gx Gy n : Int} {t1 t2 t3 u1 u2 u3 u4 u5 u6 tn : Tok} {c c' : Nat} {news : Led}
   (ha : (a, tup3 x y z t1 t2 t3 c) ∈ news) (hc : (cv, tup6 P N A B Gx Gy u1 u2 u3 u4 u5 u6 c') ∈ news) (hs : (0 < P ∧ Sm P ∧ Sm A) ∧ (Sm x ∧ Sm y ∧ Sm z) ∧ (1 < N ∧ N < 2 ^ 20)) :
   CallOk w mean mg mb 70 26 [.ref a, .int n tn, .ref cv] news (Res3 (jmul P N A (x, y, z) n)) := by
  k_with_none
  w_top off
  k_with "binaryOp Mod int int" => (k_here; refine' modN (by first | decide | assumption | omega) ?_; k_whole; intro wmr wmt9 wmk9 wme wml wmu)
  k_with "binaryOp FloorDiv int int" => (k_here; refine' divN (by first | decide | assumption | omega) (by first | decide | omega) ?_; k_whole; intro wmr wmt9 wmk9 wme)
  k_with "binaryOp Mult int int" => (k_here; refine' mulT (by first | exact okL (by decide) (by decide) | exact okR (by decide) (by decide) | exact okLs (by assumption) (by assumption) | exact okRs (by assumption) (by assumption) | exact okLP (by assumption) (by assumption) (by assumption) | exact okRP (by assumption) (by assumption) (by assumption) | exact okL (by omega) (by omega) | exact okR (by omega) (by omega)) ?_; k_whole; intro wmt9 wmk9)
  k_with "binaryOp Pow int int" => (k_here; (first | refine' pow2 (by omega) (by omega) ?_ | refine' pow3 (by omega) (by omega) ?_ | refine' pow4 (by omega) (by omega) ?_); k_whole; intro wmt9 wmk9)
  k_with "binaryOp Add int int" => (k_here; refine' addT ?_; k_whole; intro wmt9 wmk9)
  k_with "binaryOp Sub int int" => (k_here; refine' subT ?_; k_whole; intro wmt9 wmk9)
  k_with "call ref" => (k_here; (with_reducible show wpAny _ _ (call (Value.ref 49) _) _ _ _); k_dflt (refine' callOk_use (by k_asm) (by k_asm) (by k_asm) (by k_asm) (by k_asm) (by first | exact rfl | assumption) (jdouble_ok (by k_mem) (by k_mem) (by ((repeat' (first | assumption | with_reducible apply And.intro)); all_goals omega))) (by ktr_room) (by ktr_units) ?_; rintro wr9 wnw9 wh9 wtk9 wF9 wN9 ⟨wD9, wX9, wY9, wZ9, ws91, ws92, ws93, wd9, we9, ⟨wX9l, wX9u⟩, ⟨wY9l, wY9u⟩, ⟨wZ9l, wZ9u⟩, we91, we92⟩; subst we91; subst we92; (try simp only [List.cons_append, List.nil_append] at wN9); (try k_sweep); (try dsimp only); (try k_fold)))
  k_with "call ref" => (k_here; (with_reducible show wpAny _ _ (call (Value.ref 56) _) _ _ _); k_dflt (refine' callOk_use (by k_asm) (by k_asm) (by k_asm) (by k_asm) (by k_asm) (by first | exact rfl | assumption) (jadd_ok (by k_mem) (by k_mem) (by k_mem) (by ((repeat' (first | assumption | with_reducible apply And.intro)); all_goals omega))) (by ktr_room) (by ktr_units) ?_; rintro wr9 wnw9 wh9 wtk9 wF9 wN9 ⟨wD9, wX9, wY9, wZ9, ws91, ws92, ws93, wd9, we9, ⟨wX9l, wX9u⟩, ⟨wY9l, wY9u⟩, ⟨wZ9l, wZ9u⟩, we91, we92⟩; subst we91; subst we92; (try simp only [List.cons_append, List.nil_append] at wN9); (try k_sweep); (try dsimp only); (try k_fold)))
  k_with "call ref" => (k_here; (with_reducible show wpAny _ _ (call (Value.ref 70) _) _ _ _); (rename JmulAt _ _ _ _ _ => wih9); k_dflt (refine' callOk_use (by k_asm) (by k_asm) (by k_asm) (by k_asm) (by k_asm) (by first | exact rfl | assumption) ((jmulAt_use wih9 (by k_mem) (by k_mem) (by ((repeat' (first | assumption | with_reducible apply And.intro)); all_goals omega)))) (by ktr_room) (by ktr_units) ?_; rintro wr9 wnw9 wh9 wtk9 wF9 wN9 ⟨wD9, wX9, wY9, wZ9, ws91, ws92, ws93, wd9, we9, ⟨wX9l, wX9u⟩, ⟨wY9l, wY9u⟩, ⟨wZ9l, wZ9u⟩, we91, we92⟩; subst we91; subst we92; (try simp only [List.cons_append, List.nil_append] at wN9); (try k_sweep); (try dsimp only); (try k_fold)))
  by_cases hin : 0 ≤ n ∧ n < N
  · exact (jmulAt w mean mg mb 20 ha hc (by omega)).more (by decide)
  have hat : JmulAt w mean mg mb 20 := jmulAt w mean mg mb 20
  unfold CallOk
  k_fill
  intro dp un gd cn cs a9 ccd cl outer A₀ base h₀ L m s Q E B F X NN T hk hd hu hret
  obtain ⟨⟨hP0, ⟨hP1, hP2⟩, hA1, hA2⟩, ⟨⟨hx1, hx2⟩, ⟨hy1, hy2⟩, hz1, hz2⟩, hN1, hN2⟩ := hs
  have hN0 : 0 < N := by omega
  refine wpAny_call ?_
  k_dflt cell_enter
  k_steps
  all_goals first | (exfalso; omega) | (refine' end3 (Q := Q) (s := s) hret ?eF ?eN ?eM ?eS ?eE ?e1 ?e2 ?e3; (case eF => assumption); (case eN => assumption); (case eM => k_mem); (case eS => kcj_all); (case eE => first | exact jmul_end1 (by assumption) | exact jmul_end2 (by assumption) | exact jmul_end6 (by assumption) (by assumption)); (case e1 => first | exact sm_of (by assumption) (by assumption) (by assumption) | exact ⟨by assumption, by assumption⟩ | omega); (case e2 => first | exact sm_of (by assumption) (by assumption) (by assumption) | exact ⟨by assumption, by assumption⟩ | omega); (case e3 => first | exact sm_of (by assumption) (by assumption) (by assumption) | exact ⟨by assumption, by assumption⟩ | omega))

end
section


theorem toJ_ok {w mean mg mb} {p : Addr} {x y : Int} {t1 t2 : Tok} {c : Nat} {news : Led} (hp : (p, tup2 x y t1 t2 c) ∈ news) (hs : Sm x ∧ Sm y) :
   CallOk w mean mg mb 42 1 [.ref p] news (Res3 (x, y, 1)) := by
  k_with_none
  w_top off
  k_with "binaryOp Mod int int" => (k_here; refine' modN (by first | decide | assumption | omega) ?_; k_whole; intro wmr wmt9 wmk9 wme wml wmu)
  k_with "binaryOp FloorDiv int int" => (k_here; refine' divN (by first | decide | assumption | omega) (by first | decide | omega) ?_; k_whole; intro wmr wmt9 wmk9 wme)
  k_with "binaryOp Mult int int" => (k_here; refine' mulT (by first | exact okL (by decide) (by decide) | exact okR (by decide) (by decide) | exact okLs (by assumption) (by assumption) | exact okRs (by assumption) (by assumption) | exact okLP (by assumption) (by assumption) (by assumption) | exact okRP (by assumption) (by assumption) (by assumption) | exact okL (by omega) (by omega) | exact okR (by omega) (by omega)) ?_; k_whole; intro wmt9 wmk9)
  k_with "binaryOp Pow int int" => (k_here; (first | refine' pow2 (by omega) (by omega) ?_ | refine' pow3 (by omega) (by omega) ?_ | refine' pow4 (by omega) (by omega) ?_); k_whole; intro wmt9 wmk9)
  k_with "binaryOp Add int int" => (k_here; refine' addT ?_; k_whole; intro wmt9 wmk9)
  k_with "binaryOp Sub int int" => (k_here; refine' subT ?_; k_whole; intro wmt9 wmk9)
  k_with "call ref" => (k_here; (with_reducible show wpAny _ _ (call (Value.ref 35) _) _ _ _); k_dflt (refine' callOk_use (by k_asm) (by k_asm) (by k_asm) (by k_asm) (by k_asm) (by first | exact rfl | assumption) (inv_ok (by ((repeat' (first | assumption | with_reducible apply And.intro)); all_goals omega))) (by ktr_room) (by ktr_units) ?_; rintro wr9 wnw9 wh9 wtk9 wF9 wN9 ⟨wy9, wt9, we9, ⟨wy9l, wy9u⟩, we91, we92⟩; subst we91; subst we92; (try simp only [List.cons_append, List.nil_append] at wN9); (try k_sweep); (try dsimp only); (try k_fold)))
  k_with "call ref" => (k_here; (with_reducible show wpAny _ _ (call (Value.ref 28) _) _ _ _); k_dflt (refine' callOk_use (by k_asm) (by k_asm) (by k_asm) (by k_asm) (by k_asm) (by first | exact rfl | assumption) (bytes_ok (by first | assumption | omega)) (by ktr_room) (by ktr_units) ?_; rintro wr9 wnw9 wh9 wtk9 wF9 wN9 ⟨wt9, we91, we92⟩; subst we91; subst we92; (try simp only [List.cons_append, List.nil_append] at wN9); (try k_sweep); (try dsimp only); (try k_fold)))
  unfold CallOk
  k_fill
  intro dp un gd cn cs a ccd cl outer A₀ base h₀ L m s Q E B F X NN T hk hd hu hret
  obtain ⟨⟨hx1, hx2⟩, hy1, hy2⟩ := hs
  refine wpAny_call ?_
  k_dflt cell_enter
  k_steps
  all_goals (refine' end3 (Q := Q) (s := s) hret ?eF ?eN ?eM ?eS ?eE ?e1 ?e2 ?e3; (case eF => assumption); (case eN => assumption); (case eM => k_mem); (case eS => kcj_all); (case eE => rfl); (case e1 => first | exact sm_of (by assumption) (by assumption) (by assumption) | exact ⟨by assumption, by assumption⟩ | omega); (case e2 => first | exact sm_of (by assumption) (by assumption) (by assumption) | exact ⟨by assumption, by assumption⟩ | omega); (case e3 => first | exact sm_of (by assumption) (by assumption) (by assumption) | exact ⟨by assumption, by assumption⟩ | omega))
theorem fromJ_end {P x y z i X Y : Int} (hi : i = pinv z P) (hX : x * i ^ 2 % P = X) (hY : y * i ^ 3 % P = Y) : (X, Y) = fromJ P (x, y, z) := by subst hi hX hY; rfl
theorem fromJ_ok {w mean mg mb} {p cv : Addr} {x y z P N A B Gx Gy : Int} {t1 t2 t3 u1 u2 u3 u4 u5 u6 : Tok} {c c' : Nat} {news : Led}
   (hp : (p, tup3 x y z t1 t2 t3 c) ∈ news) (hc : (cv, tup6 P N A B Gx Gy u1 u2 u3 u4 u5 u6 c') ∈ news) (hs : (1 < P ∧ Sm P) ∧ Sm x ∧ Sm y ∧ Sm z) :
   CallOk w mean mg mb 63 2 [.ref p, .ref cv] news (Res2 (fromJ P (x, y, z))) := by
  k_with_none
  w_top off
  k_with "binaryOp Mod int int" => (k_here; refine' modN (by first | decide | assumption | omega) ?_; k_whole; intro wmr wmt9 wmk9 wme wml wmu)
  k_with "binaryOp FloorDiv int int" => (k_here; refine' divN (by first | decide | assumption | omega) (by first | decide | omega) ?_; k_whole; intro wmr wmt9 wmk9 wme)
  k_with "binaryOp Mult int int" => (k_here; refine' mulT (by first | exact okL (by decide) (by decide) | exact okR (by decide) (by decide) | exact okLs (by assumption) (by assumption) | exact okRs (by assumption) (by assumption) | exact okLP (by assumption) (by assumption) (by assumption) | exact okRP (by assumption) (by assumption) (by assumption) | exact okL (by omega) (by omega) | exact okR (by omega) (by omega)) ?_; k_whole; intro wmt9 wmk9)
  k_with "binaryOp Pow int int" => (k_here; (first | refine' pow2 (by omega) (by omega) ?_ | refine' pow3 (by omega) (by omega) ?_ | refine' pow4 (by omega) (by omega) ?_); k_whole; intro wmt9 wmk9)
  k_with "binaryOp Add int int" => (k_here; refine' addT ?_; k_whole; intro wmt9 wmk9)
  k_with "binaryOp Sub int int" => (k_here; refine' subT ?_; k_whole; intro wmt9 wmk9)
  k_with "call ref" => (k_here; (with_reducible show wpAny _ _ (call (Value.ref 35) _) _ _ _); k_dflt (refine' callOk_use (by k_asm) (by k_asm) (by k_asm) (by k_asm) (by k_asm) (by first | exact rfl | assumption) (inv_ok (by ((repeat' (first | assumption | with_reducible apply And.intro)); all_goals omega))) (by ktr_room) (by ktr_units) ?_; rintro wr9 wnw9 wh9 wtk9 wF9 wN9 ⟨wy9, wt9, we9, ⟨wy9l, wy9u⟩, we91, we92⟩; subst we91; subst we92; (try simp only [List.cons_append, List.nil_append] at wN9); (try k_sweep); (try dsimp only); (try k_fold)))
  k_with "call ref" => (k_here; (with_reducible show wpAny _ _ (call (Value.ref 28) _) _ _ _); k_dflt (refine' callOk_use (by k_asm) (by k_asm) (by k_asm) (by k_asm) (by k_asm) (by first | exact rfl | assumption) (bytes_ok (by first | assumption | omega)) (by ktr_room) (by ktr_units) ?_; rintro wr9 wnw9 wh9 wtk9 wF9 wN9 ⟨wt9, we91, we92⟩; subst we91; subst we92; (try simp only [List.cons_append, List.nil_append] at wN9); (try k_sweep); (try dsimp only); (try k_fold)))
  unfold CallOk
  k_fill
  intro dp un gd cn cs a ccd cl outer A₀ base h₀ L m s Q E B F X NN T hk hd hu hret
  obtain ⟨⟨hP0, hP1, hP2⟩, ⟨hx1, hx2⟩, ⟨hy1, hy2⟩, hz1, hz2⟩ := hs
  refine wpAny_call ?_
  k_dflt cell_enter
  k_steps
  all_goals (refine' end2 (Q := Q) (s := s) hret ?eF ?eN ?eM ?eS ?eE ?e1 ?e2; (case eF => assumption); (case eN => assumption); (case eM => k_mem); (case eS => kcj_all); (case eE => exact fromJ_end (by assumption) (by assumption) (by assumption)); (case e1 => first | exact sm_of (by assumption) (by assumption) (by assumption) | exact ⟨by assumption, by assumption⟩ | omega); (case e2 => first | exact sm_of (by assumption) (by assumption) (by assumption) | exact ⟨by assumption, by assumption⟩ | omega))



theorem mult_ok {w mean mg mb} {p cv : Addr} {x y n P N A B Gx Gy : Int} {t1 t2 tn u1 u2 u3 u4 u5 u6 : Tok} {c c' : Nat} {news : Led}
   (hp : (p, tup2 x y t1 t2 c) ∈ news) (hc : (cv, tup6 P N A B Gx Gy u1 u2 u3 u4 u5 u6 c') ∈ news) (hs : (1 < P ∧ Sm P ∧ Sm A) ∧ (Sm x ∧ Sm y) ∧ (1 < N ∧ N < 2 ^ 20)) :
   CallOk w mean mg mb 77 28 [.ref p, .int n tn, .ref cv] news (Res2 (pmul P N A x y n)) := by
  k_with_none
  w_top off
  k_with "binaryOp Mod int int" => (k_here; refine' modN (by first | decide | assumption | omega) ?_; k_whole; intro wmr wmt9 wmk9 wme wml wmu)
  k_with "binaryOp FloorDiv int int" => (k_here; refine' divN (by first | decide | assumption | omega) (by first | decide | omega) ?_; k_whole; intro wmr wmt9 wmk9 wme)
  k_with "binaryOp Mult int int" => (k_here; refine' mulT (by first | exact okL (by decide) (by decide) | exact okR (by decide) (by decide) | exact okLs (by assumption) (by assumption) | exact okRs (by assumption) (by assumption) | exact okLP (by assumption) (by assumption) (by assumption) | exact okRP (by assumption) (by assumption) (by assumption) | exact okL (by omega) (by omega) | exact okR (by omega) (by omega)) ?_; k_whole; intro wmt9 wmk9)
  k_with "binaryOp Pow int int" => (k_here; (first | refine' pow2 (by omega) (by omega) ?_ | refine' pow3 (by omega) (by omega) ?_ | refine' pow4 (by omega) (by omega) ?_); k_whole; intro wmt9 wmk9)
  k_with "binaryOp Add int int" => (k_here; refine' addT ?_; k_whole; intro wmt9 wmk9)
  k_with "binaryOp Sub int int" => (k_here; refine' subT ?_; k_whole; intro wmt9 wmk9)
  k_with "call ref" => (k_here; (with_reducible show wpAny _ _ (call (Value.ref 35) _) _ _ _); k_dflt (refine' callOk_use (by k_asm) (by k_asm) (by k_asm) (by k_asm) (by k_asm) (by first | exact rfl | assumption) (inv_ok (by ((repeat' (first | assumption | with_reducible apply And.intro)); all_goals omega))) (by ktr_room) (by ktr_units) ?_; rintro wr9 wnw9 wh9 wtk9 wF9 wN9 ⟨wy9, wt9, we9, ⟨wy9l, wy9u⟩, we91, we92⟩; subst we91; subst we92; (try simp only [List.cons_append, List.nil_append] at wN9); (try k_sweep); (try dsimp only); (try k_fold)))
  k_with "call ref" => (k_here; (with_reducible show wpAny _ _ (call (Value.ref 28) _) _ _ _); k_dflt (refine' callOk_use (by k_asm) (by k_asm) (by k_asm) (by k_asm) (by k_asm) (by first | exact rfl | assumption) (bytes_ok (by first | assumption | omega)) (by ktr_room) (by ktr_units) ?_; rintro wr9 wnw9 wh9 wtk9 wF9 wN9 ⟨wt9, we91, we92⟩; subst we91; subst we92; (try simp only [List.cons_append, List.nil_append] at wN9); (try k_sweep); (try dsimp only); (try k_fold)))
  k_with "call ref" => (k_here; (with_reducible show wpAny _ _ (call (Value.ref 70) _) _ _ _); k_dflt (refine' callOk_use (by k_asm) (by k_asm) (by k_asm) (by k_asm) (by k_asm) (by first | exact rfl | assumption) (jmul_ok (by k_mem) (by k_mem) (by ((repeat' (first | assumption | with_reducible apply And.intro)); all_goals omega))) (by ktr_room) (by ktr_units) ?_; rintro wr9 wnw9 wh9 wtk9 wF9 wN9 ⟨wD9, wX9, wY9, wZ9, ws91, ws92, ws93, wd9, we9, ⟨wX9l, wX9u⟩, ⟨wY9l, wY9u⟩, ⟨wZ9l, wZ9u⟩, we91, we92⟩; subst we91; subst we92; (try simp only [List.cons_append, List.nil_append] at wN9); (try k_sweep); (try dsimp only); (try k_fold)))
  k_with "call ref" => (k_here; (with_reducible show wpAny _ _ (call (Value.ref 42) _) _ _ _); k_dflt (refine' callOk_use (by k_asm) (by k_asm) (by k_asm) (by k_asm) (by k_asm) (by first | exact rfl | assumption) (toJ_ok (by k_mem) (by ((repeat' (first | assumption | with_reducible apply And.intro)); all_goals omega))) (by ktr_room) (by ktr_units) ?_; rintro wr9 wnw9 wh9 wtk9 wF9 wN9 ⟨wD9, wX9, wY9, wZ9, ws91, ws92, ws93, wd9, we9, ⟨wX9l, wX9u⟩, ⟨wY9l, wY9u⟩, ⟨wZ9l, wZ9u⟩, we91, we92⟩; subst we91; subst we92; (try simp only [List.cons_append, List.nil_append] at wN9); (try k_sweep); (try dsimp only); (try k_fold)))
  k_with "call ref" => (k_here; (with_reducible show wpAny _ _ (call (Value.ref 63) _) _ _ _); k_dflt (refine' callOk_use (by k_asm) (by k_asm) (by k_asm) (by k_asm) (by k_asm) (by first | exact rfl | assumption) (fromJ_ok (by k_mem) (by k_mem) (by ((repeat' (first | assumption | with_reducible apply And.intro)); all_goals omega))) (by ktr_room) (by ktr_units) ?_; rintro wr9 wnw9 wh9 wtk9 wF9 wN9 ⟨wD9, wX9, wY9, ws91, ws92, wd9, we9, ⟨wX9l, wX9u⟩, ⟨wY9l, wY9u⟩, we91, we92⟩; subst we91; subst we92; (try simp only [List.cons_append, List.nil_append] at wN9); (try k_sweep); (try dsimp only); (try k_fold)))
  unfold CallOk
  k_fill
  intro dp un gd cn cs a ccd cl outer A₀ base h₀ L m s Q E B F X NN T hk hd hu hret
  obtain ⟨⟨hP0, ⟨hP1, hP2⟩, hA1, hA2⟩, ⟨⟨hx1, hx2⟩, hy1, hy2⟩, hN1, hN2⟩ := hs
  refine wpAny_call ?_
  k_dflt cell_enter
  k_steps
  all_goals (refine' end2 (Q := Q) (s := s) hret ?eF ?eN ?eM ?eS ?eE ?e1 ?e2; (case eF => assumption); (case eN => assumption); (case eM => k_mem); (case eS => kcj_all); (case eE => (simp only [pmul, *]; try rfl)); (case e1 => first | exact sm_of (by assumption) (by assumption) (by assumption) | exact ⟨by assumption, by assumption⟩ | omega); (case e2 => first | exact sm_of (by assumption) (by assumption) (by assumption) | exact ⟨by assumption, by assumption⟩ | omega))


theorem pub_ok {w mean mg mb} {cv : Addr} {arr : Array UInt8} {P N A B Gx Gy : Int} {tb u1 u2 u3 u4 u5 u6 : Tok} {c' : Nat} {news : Led}
   (hc : (cv, tup6 P N A B Gx Gy u1 u2 u3 u4 u5 u6 c') ∈ news) (hs : (1 < P ∧ Sm P ∧ Sm A) ∧ (Sm Gx ∧ Sm Gy) ∧ (1 < N ∧ N < 2 ^ 20) ∧ arr.size ≤ 64) :
   CallOk w mean mg mb 84 30 [.bytes arr tb, .ref cv] news (Res2 (pmul P N A Gx Gy (bval (KBw.bInts arr)))) := by
  k_with_none
  w_top off
  k_with "binaryOp Mod int int" => (k_here; refine' modN (by first | decide | assumption | omega) ?_; k_whole; intro wmr wmt9 wmk9 wme wml wmu)
  k_with "binaryOp FloorDiv int int" => (k_here; refine' divN (by first | decide | assumption | omega) (by first | decide | omega) ?_; k_whole; intro wmr wmt9 wmk9 wme)
  k_with "binaryOp Mult int int" => (k_here; refine' mulT (by first | exact okL (by decide) (by decide) | exact okR (by decide) (by decide) | exact okLs (by assumption) (by assumption) | exact okRs (by assumption) (by assumption) | exact okLP (by assumption) (by assumption) (by assumption) | exact okRP (by assumption) (by assumption) (by assumption) | exact okL (by omega) (by omega) | exact okR (by omega) (by omega)) ?_; k_whole; intro wmt9 wmk9)
  k_with "binaryOp Pow int int" => (k_here; (first | refine' pow2 (by omega) (by omega) ?_ | refine' pow3 (by omega) (by omega) ?_ | refine' pow4 (by omega) (by omega) ?_); k_whole; intro wmt9 wmk9)
  k_with "binaryOp Add int int" => (k_here; refine' addT ?_; k_whole; intro wmt9 wmk9)
  k_with "binaryOp Sub int int" => (k_here; refine' subT ?_; k_whole; intro wmt9 wmk9)
  k_with "call ref" => (k_here; (with_reducible show wpAny _ _ (call (Value.ref 35) _) _ _ _); k_dflt (refine' callOk_use (by k_asm) (by k_asm) (by k_asm) (by k_asm) (by k_asm) (by first | exact rfl | assumption) (inv_ok (by ((repeat' (first | assumption | with_reducible apply And.intro)); all_goals omega))) (by ktr_room) (by ktr_units) ?_; rintro wr9 wnw9 wh9 wtk9 wF9 wN9 ⟨wy9, wt9, we9, ⟨wy9l, wy9u⟩, we91, we92⟩; subst we91; subst we92; (try simp only [List.cons_append, List.nil_append] at wN9); (try k_sweep); (try dsimp only); (try k_fold)))
  k_with "call ref" => (k_here; (with_reducible show wpAny _ _ (call (Value.ref 28) _) _ _ _); k_dflt (refine' callOk_use (by k_asm) (by k_asm) (by k_asm) (by k_asm) (by k_asm) (by first | exact rfl | assumption) (bytes_ok (by first | assumption | omega)) (by ktr_room) (by ktr_units) ?_; rintro wr9 wnw9 wh9 wtk9 wF9 wN9 ⟨wt9, we91, we92⟩; subst we91; subst we92; (try simp only [List.cons_append, List.nil_append] at wN9); (try k_sweep); (try dsimp only); (try k_fold)))
  k_with "call ref" => (k_here; (with_reducible show wpAny _ _ (call (Value.ref 70) _) _ _ _); k_dflt (refine' callOk_use (by k_asm) (by k_asm) (by k_asm) (by k_asm) (by k_asm) (by first | exact rfl | assumption) (jmul_ok (by k_mem) (by k_mem) (by ((repeat' (first | assumption | with_reducible apply And.intro)); all_goals omega))) (by ktr_room) (by ktr_units) ?_; rintro wr9 wnw9 wh9 wtk9 wF9 wN9 ⟨wD9, wX9, wY9, wZ9, ws91, ws92, ws93, wd9, we9, ⟨wX9l, wX9u⟩, ⟨wY9l, wY9u⟩, ⟨wZ9l, wZ9u⟩, we91, we92⟩; subst we91; subst we92; (try simp only [List.cons_append, List.nil_append] at wN9); (try k_sweep); (try dsimp only); (try k_fold)))
  k_with "call ref" => (k_here; (with_reducible show wpAny _ _ (call (Value.ref 42) _) _ _ _); k_dflt (refine' callOk_use (by k_asm) (by k_asm) (by k_asm) (by k_asm) (by k_asm) (by first | exact rfl | assumption) (toJ_ok (by k_mem) (by ((repeat' (first | assumption | with_reducible apply And.intro)); all_goals omega))) (by ktr_room) (by ktr_units) ?_; rintro wr9 wnw9 wh9 wtk9 wF9 wN9 ⟨wD9, wX9, wY9, wZ9, ws91, ws92, ws93, wd9, we9, ⟨wX9l, wX9u⟩, ⟨wY9l, wY9u⟩, ⟨wZ9l, wZ9u⟩, we91, we92⟩; subst we91; subst we92; (try simp only [List.cons_append, List.nil_append] at wN9); (try k_sweep); (try dsimp only); (try k_fold)))
  k_with "call ref" => (k_here; (with_reducible show wpAny _ _ (call (Value.ref 63) _) _ _ _); k_dflt (refine' callOk_use (by k_asm) (by k_asm) (by k_asm) (by k_asm) (by k_asm) (by first | exact rfl | assumption) (fromJ_ok (by k_mem) (by k_mem) (by ((repeat' (first | assumption | with_reducible apply And.intro)); all_goals omega))) (by ktr_room) (by ktr_units) ?_; rintro wr9 wnw9 wh9 wtk9 wF9 wN9 ⟨wD9, wX9, wY9, ws91, ws92, wd9, we9, ⟨wX9l, wX9u⟩, ⟨wY9l, wY9u⟩, we91, we92⟩; subst we91; subst we92; (try simp only [List.cons_append, List.nil_append] at wN9); (try k_sweep); (try dsimp only); (try k_fold)))
  k_with "call ref" => (k_here; (with_reducible show wpAny _ _ (call (Value.ref 77) _) _ _ _); k_dflt (refine' callOk_use (by k_asm) (by k_asm) (by k_asm) (by k_asm) (by k_asm) (by first | exact rfl | assumption) (mult_ok (by k_mem) (by k_mem) (by ((repeat' (first | assumption | with_reducible apply And.intro)); all_goals omega))) (by ktr_room) (by ktr_units) ?_; rintro wr9 wnw9 wh9 wtk9 wF9 wN9 ⟨wD9, wX9, wY9, ws91, ws92, wd9, we9, ⟨wX9l, wX9u⟩, ⟨wY9l, wY9u⟩, we91, we92⟩; subst we91; subst we92; (try simp only [List.cons_append, List.nil_append] at wN9); (try k_sweep); (try dsimp only); (try k_fold)))
  unfold CallOk
  k_fill
  intro dp un gd cn cs a ccd cl outer A₀ base h₀ L m s Q E B F X NN T hk hd hu hret
  obtain ⟨⟨hP0, ⟨hP1, hP2⟩, hA1, hA2⟩, ⟨⟨hx1, hx2⟩, hy1, hy2⟩, ⟨hN1, hN2⟩, hb⟩ := hs
  refine wpAny_call ?_
  k_dflt cell_enter
  k_steps
  all_goals (refine' end2 (Q := Q) (s := s) hret ?eF ?eN ?eM ?eS ?eE ?e1 ?e2; (case eF => assumption); (case eN => assumption); (case eM => k_mem); (case eS => kcj_all); (case eE => assumption); (case e1 => first | exact sm_of (by assumption) (by assumption) (by assumption) | exact ⟨by assumption, by assumption⟩ | omega); (case e2 => first | exact sm_of (by assumption) (by assumption) (by assumption) | exact ⟨by assumption, by assumption⟩ | omega))

end
section




theorem sign_ok {w mean mg mb} {cv : Addr} {ma pa : Array UInt8} {k P N A B Gx Gy : Int} {tm tp tk0 u1 u2 u3 u4 u5 u6 : Tok} {c' : Nat} {news : Led}
   (hc : (cv, tup6 P N A B Gx Gy u1 u2 u3 u4 u5 u6 c') ∈ news) (hs : (1 < P ∧ Sm P ∧ Sm A) ∧ (Sm Gx ∧ Sm Gy) ∧ (1 < N ∧ N < 2 ^ 20) ∧ ma.size ≤ 64 ∧ pa.size ≤ 64) :
   CallOk w mean mg mb 91 30 [.bytes ma tm, .bytes pa tp, .int k tk0, .ref cv] news (Res3 (psign P N A Gx Gy (bval (KBw.bInts ma)) (bval (KBw.bInts pa)) k)) := by
  k_with_none
  w_top off
  k_with "binaryOp Mod int int" => (k_here; refine' modN (by first | decide | assumption | omega) ?_; k_whole; intro wmr wmt9 wmk9 wme wml wmu)
  k_with "binaryOp FloorDiv int int" => (k_here; refine' divN (by first | decide | assumption | omega) (by first | decide | omega) ?_; k_whole; intro wmr wmt9 wmk9 wme)
  k_with "binaryOp Mult int int" => (k_here; refine' mulT (by first | exact okL (by decide) (by decide) | exact okR (by decide) (by decide) | exact okLs (by assumption) (by assumption) | exact okRs (by assumption) (by assumption) | exact okLP (by assumption) (by assumption) (by assumption) | exact okRP (by assumption) (by assumption) (by assumption) | exact okL (by omega) (by omega) | exact okR (by omega) (by omega)) ?_; k_whole; intro wmt9 wmk9)
  k_with "binaryOp Pow int int" => (k_here; (first | refine' pow2 (by omega) (by omega) ?_ | refine' pow3 (by omega) (by omega) ?_ | refine' pow4 (by omega) (by omega) ?_); k_whole; intro wmt9 wmk9)
  k_with "binaryOp Add int int" => (k_here; refine' addT ?_; k_whole; intro wmt9 wmk9)
  k_with "binaryOp Sub int int" => (k_here; refine' subT ?_; k_whole; intro wmt9 wmk9)
  k_with "binaryOp BitXor int int" => (k_here; (first | refine' xor0 (by omega) (by omega) ?_ | refine' xor1 (by omega) (by omega) ?_ | refine' xorB (by omega) (by omega) (by omega) (by omega) ?_); k_whole; intro wxb wxt9 wxk9 wxe wxl wxu)
  k_with "call ref" => (k_here; (with_reducible show wpAny _ _ (call (Value.ref 35) _) _ _ _); k_dflt (refine' callOk_use (by k_asm) (by k_asm) (by k_asm) (by k_asm) (by k_asm) (by first | exact rfl | assumption) (inv_ok (by ((repeat' (first | assumption | with_reducible apply And.intro)); all_goals omega))) (by ktr_room) (by ktr_units) ?_; rintro wr9 wnw9 wh9 wtk9 wF9 wN9 ⟨wy9, wt9, we9, ⟨wy9l, wy9u⟩, we91, we92⟩; subst we91; subst we92; (try simp only [List.cons_append, List.nil_append] at wN9); (try k_sweep); (try dsimp only); (try k_fold)))
  k_with "call ref" => (k_here; (with_reducible show wpAny _ _ (call (Value.ref 28) _) _ _ _); k_dflt (refine' callOk_use (by k_asm) (by k_asm) (by k_asm) (by k_asm) (by k_asm) (by first | exact rfl | assumption) (bytes_ok (by first | assumption | omega)) (by ktr_room) (by ktr_units) ?_; rintro wr9 wnw9 wh9 wtk9 wF9 wN9 ⟨wt9, we91, we92⟩; subst we91; subst we92; (try simp only [List.cons_append, List.nil_append] at wN9); (try k_sweep); (try dsimp only); (try k_fold)))
  k_with "call ref" => (k_here; (with_reducible show wpAny _ _ (call (Value.ref 77) _) _ _ _); k_dflt (refine' callOk_use (by k_asm) (by k_asm) (by k_asm) (by k_asm) (by k_asm) (by first | exact rfl | assumption) (mult_ok (by k_mem) (by k_mem) (by ((repeat' (first | assumption | with_reducible apply And.intro)); all_goals omega))) (by ktr_room) (by ktr_units) ?_; rintro wr9 wnw9 wh9 wtk9 wF9 wN9 ⟨wD9, wX9, wY9, ws91, ws92, wd9, we9, ⟨wX9l, wX9u⟩, ⟨wY9l, wY9u⟩, we91, we92⟩; subst we91; subst we92; (try simp only [List.cons_append, List.nil_append] at wN9); (try k_sweep); (try dsimp only); (try k_fold)))
  unfold CallOk
  k_fill
  intro dp un gd cn cs a ccd cl outer A₀ base h₀ L m s Q E B F X NN T hk hd hu hret
  obtain ⟨⟨hP0, ⟨hP1, hP2⟩, hA1, hA2⟩, ⟨⟨hx1, hx2⟩, hy1, hy2⟩, ⟨hN1, hN2⟩, hb1, hb2⟩ := hs
  refine wpAny_call ?_
  k_dflt cell_enter
  k_steps
  all_goals first | (exfalso; omega) | (refine' end3 (Q := Q) (s := s) hret ?eF ?eN ?eM ?eS ?eE ?e1 ?e2 ?e3; (case eF => assumption); (case eN => assumption); (case eM => k_mem); (case eS => kcj_all); (case eE => (first | exact psign_lo (by assumption) (by assumption) (by assumption) (by assumption) (by assumption) (by assumption) | exact psign_hi (by assumption) (by assumption) (by assumption) (by assumption) (by assumption) (by assumption))); (case e1 => first | exact sm_of (by assumption) (by assumption) (by assumption) | exact ⟨by assumption, by assumption⟩ | omega); (case e2 => first | exact sm_of (by assumption) (by assumption) (by assumption) | exact ⟨by assumption, by assumption⟩ | omega); (case e3 => first | exact sm_of (by assumption) (by assumption) (by assumption) | exact ⟨by assumption, by assumption⟩ | omega))

end
section
/-- the second law's own sum of two places -/
def lsum2 (P A : Int) : Option (Int × Int) → Option (Int × Int) → Option (Int × Int)
  | none, q => q
  | some r, none => some r
  | some r, some q =>
    if r.1 = q.1 ∧ r.2 ≠ q.2 then none else
      let sl := if r.1 ≠ q.1 then (q.2 - r.2) * (((q.1 - r.1) % P) ^ (P - 2).toNat % P) % P else (3 * r.1 * r.1 + A) * ((2 * r.2 % P) ^ (P - 2).toNat % P) % P
      some ((sl * sl - r.1 - q.1) % P, (sl * (r.1 - (sl * sl - r.1 - q.1) % P) - r.2) % P)
section
variable {p : Nat} [NeZero p] {b : Fin p}
theorem lsum2_ok (hp : Prm p) {A : Int} (_C : Cv finv (fc p A) b) {S T : Option (Int × Int)} (hS : RedP p S) (hT : RedP p T) (oS : On (fc p A) b (toF p S)) (oT : On (fc p A) b (toF p T)) :
    RedP p (lsum2 p A S T) ∧ toF p (lsum2 p A S T) = padd finv (fc p A) (toF p S) (toF p T) := by
  match S, T, hS, hT, oS, oT with
  | none, T, _, hT, _, _ => exact ⟨hT, rfl⟩
  | some r, none, hS, _, _, _ => exact ⟨hS, rfl⟩
  | some (x1, y1), some (x2, y2), hS, hT, oS, oT =>
    have ex : x1 = x2 ↔ fc p x1 = fc p x2 := ⟨fun e => by rw [e], fun e => red_inj hS.1 hT.1 e⟩
    have ey : y1 = y2 ↔ fc p y1 = fc p y2 := ⟨fun e => by rw [e], fun e => red_inj hS.2 hT.2 e⟩
    unfold lsum2
    dsimp only
    by_cases h0 : x1 = x2 ∧ y1 ≠ y2
    · rw [if_pos h0]
      refine ⟨trivial, ?_⟩
      have e2 : fc p y1 + fc p y2 = 0 := (on_same _C oS oT (ex.mp h0.1)).resolve_left fun k => h0.2 (ey.mpr k)
      exact (padd_inf (inv := finv) ⟨ex.mp h0.1, e2⟩).symm
    · rw [if_neg h0]
      have h0' : ¬ (fc p x1 = fc p x2 ∧ fc p y1 + fc p y2 = 0) := fun k => by
        have e3 : y1 = y2 := Decidable.not_not.mp fun q => h0 ⟨ex.mpr k.1, q⟩
        refine on_yne _C oS (_C.D.two _ ?_)
        have h2 := k.2
        rw [← ey.mp e3] at h2
        clear k e3 ex ey h0
        grind
      have em : fc p (if x1 ≠ x2 then (y2 - y1) * (((x2 - x1) % (p : Int)) ^ ((p : Int) - 2).toNat % (p : Int)) % (p : Int) else (3 * x1 * x1 + A) * ((2 * y1 % (p : Int)) ^ ((p : Int) - 2).toNat % (p : Int)) % (p : Int))
          = if fc p x1 = fc p x2 then (3 * (fc p x1 * fc p x1) + fc p A) * finv (2 * fc p y1) else (fc p y2 - fc p y1) * finv (fc p x2 - fc p x1) := by
        by_cases e : x1 = x2
        · rw [if_neg (fun k => k e), if_pos (ex.mp e), fc_mod, fc_mul, fc_inv hp, fc_add, fc_mul, fc_mul, fc_mul, fc_three, fc_two]
          have e4 : (3 : Fin p) * fc p x1 * fc p x1 = 3 * (fc p x1 * fc p x1) := by clear ey ex h0 h0' e; grind
          rw [e4]
        · rw [if_pos e, if_neg (fun k => e (ex.mpr k)), fc_mod, fc_mul, fc_inv hp, fc_sub, fc_sub]
      generalize (if x1 ≠ x2 then (y2 - y1) * (((x2 - x1) % (p : Int)) ^ ((p : Int) - 2).toNat % (p : Int)) % (p : Int) else (3 * x1 * x1 + A) * ((2 * y1 % (p : Int)) ^ ((p : Int) - 2).toNat % (p : Int)) % (p : Int)) = m at em ⊢
      refine ⟨⟨red_mod _, red_mod _⟩, ?_⟩
      show some (fc p ((m * m - x1 - x2) % (p : Int)), fc p ((m * (x1 - (m * m - x1 - x2) % (p : Int)) - y1) % (p : Int))) = padd finv (fc p A) (some (fc p x1, fc p y1)) (some (fc p x2, fc p y2))
      dsimp only [padd]
      rw [if_neg h0', ← em]
      simp only [fc_mod, fc_sub, fc_mul]
/-- the multiples of a place, by the second law's sum -/
def lmul2 (P A : Int) (G : Option (Int × Int)) : Nat → Option (Int × Int)
  | 0 => none
  | 1 => G
  | n + 2 => lsum2 P A (lmul2 P A G (n + 1)) G
theorem lmul2_ok (hp : Prm p) {A : Int} (C : Cv finv (fc p A) b) {G : Option (Int × Int)} (hG : RedP p G) (oG : On (fc p A) b (toF p G)) : ∀ n, RedP p (lmul2 p A G n) ∧ toF p (lmul2 p A G n) = psm finv (fc p A) n (toF p G)
  | 0 => ⟨trivial, rfl⟩
  | 1 => ⟨hG, rfl⟩
  | n + 2 => by
    obtain ⟨r, e⟩ := lmul2_ok hp C hG oG (n + 1)
    have o : On (fc p A) b (toF p (lmul2 p A G (n + 1))) := by rw [e]; exact psm_on C oG _
    obtain ⟨r2, e2⟩ := lsum2_ok hp C r hG o oG
    refine ⟨r2, ?_⟩
    show toF p (lsum2 p A (lmul2 p A G (n + 1)) G) = _
    rw [e2, e, padd_comm C (psm_on C oG _) oG]
    show _ = psm finv (fc p A) (n + 2) (toF p G)
    rw [show n + 2 = 1 + (n + 1) by omega, psm_add C oG 1 (n + 1), psm_one]
end

theorem ls2_none {P A x1 y1 x2 y2 : Int} (hx : x1 = x2) (hy : y1 ≠ y2) : lsum2 P A (some (x1, y1)) (some (x2, y2)) = none := by
  unfold lsum2
  dsimp only
  rw [if_pos ⟨hx, hy⟩]
theorem ls2_add {P A x1 y1 x2 y2 d i sl X Y : Int} (e : x1 ≠ x2) (h1 : (x2 - x1) % P = d) (h2 : d ^ (P - 2).toNat % P = i) (h5 : (y2 - y1) * i % P = sl)
    (h3 : (sl * sl - x1 - x2) % P = X) (h4 : (sl * (x1 - X) - y1) % P = Y) : lsum2 P A (some (x1, y1)) (some (x2, y2)) = some (X, Y) := by
  subst h1 h2 h5 h3 h4
  unfold lsum2
  dsimp only
  rw [if_neg (fun k => e k.1), if_pos e]
theorem ls2_dbl {P A x1 y1 x2 y2 d i sl X Y : Int} (e : x1 = x2) (e2 : y1 = y2) (h1 : 2 * y1 % P = d) (h2 : d ^ (P - 2).toNat % P = i) (h5 : (3 * x1 * x1 + A) * i % P = sl)
    (h3 : (sl * sl - x1 - x2) % P = X) (h4 : (sl * (x1 - X) - y1) % P = Y) : lsum2 P A (some (x1, y1)) (some (x2, y2)) = some (X, Y) := by
  subst h1 h2 h5 h3 h4
  unfold lsum2
  dsimp only
  rw [if_neg (fun k => k.2 e2), if_neg (fun k => k e)]
/-- v is None, or a tuple of two small ints on the ledger -/
def PtIs (news : Led) (v : Value) : Option (Int × Int) → Prop
  | none => v = .none
  | some T => ∃ d t1 t2 c, v = .ref d ∧ (d, tup2 T.1 T.2 t1 t2 c) ∈ news ∧ Sm T.1 ∧ Sm T.2
theorem PtIs.up {news news' : Led} {v : Value} {S : Option (Int × Int)} (h : PtIs news v S) (hs : ∀ p ∈ news, p ∈ news') : PtIs news' v S := by
  match S, h with
  | none, h => exact h
  | some T, ⟨d, t1, t2, c, e, hm, h1⟩ => exact ⟨d, t1, t2, c, e, hs _ hm, h1⟩
theorem ptIs_of_res {news : Led} {v : Value} {S : Option (Int × Int)} {nw : Led} (h : ResV S v nw) : PtIs (nw ++ news) v S := by
  match S, h with
  | none, h => exact h.1
  | some T, ⟨D, X, Y, s1, s2, d, e, hX, hY, hr, hn⟩ =>
    subst e hr hn
    exact ⟨D, s1, s2, d, rfl, List.mem_append_left _ (List.Mem.head _), hX, hY⟩
theorem ptIs_N {h₀ h' : Heap} {L : Addr} {news nw : Led} {v : Value} {S : Option (Int × Int)} (_N : News h₀ L h' (nw ++ news)) (h : ResV S v nw) : PtIs (nw ++ news) v S := ptIs_of_res h
theorem ptIs_mk {news : Led} {d : Addr} {x y : Int} {t1 t2 : Tok} {c : Nat} (hm : (d, tup2 x y t1 t2 c) ∈ news) (hx : Sm x) (hy : Sm y) : PtIs news (.ref d) (some (x, y)) := ⟨d, t1, t2, c, rfl, hm, hx, hy⟩



theorem lsum2_ss {w mean mg mb} {d1 d2 : Addr} {x1 y1 x2 y2 P A : Int} {t1 t2 t3 t4 tA tP : Tok} {c c2 : Nat} {news : Led}
   (hp : (d1, tup2 x1 y1 t1 t2 c) ∈ news) (hq : (d2, tup2 x2 y2 t3 t4 c2) ∈ news) (hs : (2 < P ∧ Sm P ∧ Sm A) ∧ (Sm x1 ∧ Sm y1) ∧ Sm x2 ∧ Sm y2) :
   CallOk w mean mg mb 124 2 [.ref d1, .ref d2, .int A tA, .int P tP] news (ResV (lsum2 P A (some (x1, y1)) (some (x2, y2)))) := by
  k_with_none
  w_top off
  k_with "binaryOp Mod int int" => (k_here; refine' modN (by first | decide | assumption | omega) ?_; k_whole; intro wmr wmt9 wmk9 wme wml wmu)
  k_with "binaryOp FloorDiv int int" => (k_here; refine' divN (by first | decide | assumption | omega) (by first | decide | omega) ?_; k_whole; intro wmr wmt9 wmk9 wme)
  k_with "binaryOp Mult int int" => (k_here; refine' mulT (by first | exact okL (by decide) (by decide) | exact okR (by decide) (by decide) | exact okLs (by assumption) (by assumption) | exact okRs (by assumption) (by assumption) | exact okLP (by assumption) (by assumption) (by assumption) | exact okRP (by assumption) (by assumption) (by assumption) | exact okL (by omega) (by omega) | exact okR (by omega) (by omega)) ?_; k_whole; intro wmt9 wmk9)
  k_with "binaryOp Pow int int" => (k_here; (first | refine' pow2 (by omega) (by omega) ?_ | refine' pow3 (by omega) (by omega) ?_ | refine' pow4 (by omega) (by omega) ?_); k_whole; intro wmt9 wmk9)
  k_with "binaryOp Add int int" => (k_here; refine' addT ?_; k_whole; intro wmt9 wmk9)
  k_with "binaryOp Sub int int" => (k_here; refine' subT ?_; k_whole; intro wmt9 wmk9)
  k_with "call builtin:pow" => (k_here; refine' powN3 (by omega) (by omega) ?_; k_whole; intro wpr wpt9 wpk9 wpe wpl wpu)
  unfold CallOk
  k_fill
  intro dp un gd cn cs a ccd cl outer A₀ base h₀ L m s Q E BB F X NN T hk hd hu hret
  obtain ⟨⟨hP0, ⟨hP1, hP2⟩, hA1, hA2⟩, ⟨⟨hx1, hx2⟩, hy1, hy2⟩, ⟨hx3, hx4⟩, hy3, hy4⟩ := hs
  refine wpAny_call ?_
  k_dflt cell_enter
  k_steps
  all_goals first
    | (exfalso; omega)
    | exact endV_none (Q := Q) (s := s) hret (by assumption) (by assumption) (by kcj_all) (ls2_none (by assumption) (by assumption))
    | (refine endV_some (Q := Q) (s := s) hret (by assumption) (by assumption) (by k_mem) (by kcj_all) ?_ rfl (by omega) (by omega); first
      | exact ls2_add (by assumption) (by assumption) (by assumption) (by assumption) (by assumption) (by assumption)
      | exact ls2_dbl (by assumption) (by assumption) (by assumption) (by assumption) (by assumption) (by assumption) (by assumption))
theorem lsum2_nn {w mean mg mb} {P A : Int} {tA tP : Tok} {news : Led} :
   CallOk w mean mg mb 124 2 [.none, .none, .int A tA, .int P tP] news (ResV none) := by
  k_with_none
  w_top off
  k_with "binaryOp Mod int int" => (k_here; refine' modN (by first | decide | assumption | omega) ?_; k_whole; intro wmr wmt9 wmk9 wme wml wmu)
  k_with "binaryOp FloorDiv int int" => (k_here; refine' divN (by first | decide | assumption | omega) (by first | decide | omega) ?_; k_whole; intro wmr wmt9 wmk9 wme)
  k_with "binaryOp Mult int int" => (k_here; refine' mulT (by first | exact okL (by decide) (by decide) | exact okR (by decide) (by decide) | exact okLs (by assumption) (by assumption) | exact okRs (by assumption) (by assumption) | exact okLP (by assumption) (by assumption) (by assumption) | exact okRP (by assumption) (by assumption) (by assumption) | exact okL (by omega) (by omega) | exact okR (by omega) (by omega)) ?_; k_whole; intro wmt9 wmk9)
  k_with "binaryOp Pow int int" => (k_here; (first | refine' pow2 (by omega) (by omega) ?_ | refine' pow3 (by omega) (by omega) ?_ | refine' pow4 (by omega) (by omega) ?_); k_whole; intro wmt9 wmk9)
  k_with "binaryOp Add int int" => (k_here; refine' addT ?_; k_whole; intro wmt9 wmk9)
  k_with "binaryOp Sub int int" => (k_here; refine' subT ?_; k_whole; intro wmt9 wmk9)
  k_with "call builtin:pow" => (k_here; refine' powN3 (by omega) (by omega) ?_; k_whole; intro wpr wpt9 wpk9 wpe wpl wpu)
  unfold CallOk
  k_fill
  intro dp un gd cn cs a ccd cl outer A₀ base h₀ L m s Q E BB F X NN T hk hd hu hret
  refine wpAny_call ?_
  k_dflt cell_enter
  k_steps
  all_goals exact endV_none (Q := Q) (s := s) hret (by assumption) (by assumption) (by kcj_all) rfl
theorem lsum2_ns {w mean mg mb} {d2 : Addr} {x2 y2 P A : Int} {t3 t4 tA tP : Tok} {c2 : Nat} {news : Led}
   (hq : (d2, tup2 x2 y2 t3 t4 c2) ∈ news) (hs : Sm x2 ∧ Sm y2) :
   CallOk w mean mg mb 124 2 [.none, .ref d2, .int A tA, .int P tP] news (ResV (some (x2, y2))) := by
  k_with_none
  w_top off
  k_with "binaryOp Mod int int" => (k_here; refine' modN (by first | decide | assumption | omega) ?_; k_whole; intro wmr wmt9 wmk9 wme wml wmu)
  k_with "binaryOp FloorDiv int int" => (k_here; refine' divN (by first | decide | assumption | omega) (by first | decide | omega) ?_; k_whole; intro wmr wmt9 wmk9 wme)
  k_with "binaryOp Mult int int" => (k_here; refine' mulT (by first | exact okL (by decide) (by decide) | exact okR (by decide) (by decide) | exact okLs (by assumption) (by assumption) | exact okRs (by assumption) (by assumption) | exact okLP (by assumption) (by assumption) (by assumption) | exact okRP (by assumption) (by assumption) (by assumption) | exact okL (by omega) (by omega) | exact okR (by omega) (by omega)) ?_; k_whole; intro wmt9 wmk9)
  k_with "binaryOp Pow int int" => (k_here; (first | refine' pow2 (by omega) (by omega) ?_ | refine' pow3 (by omega) (by omega) ?_ | refine' pow4 (by omega) (by omega) ?_); k_whole; intro wmt9 wmk9)
  k_with "binaryOp Add int int" => (k_here; refine' addT ?_; k_whole; intro wmt9 wmk9)
  k_with "binaryOp Sub int int" => (k_here; refine' subT ?_; k_whole; intro wmt9 wmk9)
  k_with "call builtin:pow" => (k_here; refine' powN3 (by omega) (by omega) ?_; k_whole; intro wpr wpt9 wpk9 wpe wpl wpu)
  unfold CallOk
  k_fill
  intro dp un gd cn cs a ccd cl outer A₀ base h₀ L m s Q E BB F X NN T hk hd hu hret
  refine wpAny_call ?_
  k_dflt cell_enter
  k_steps
  all_goals exact endV_some (Q := Q) (s := s) hret (by assumption) (by assumption) (by k_mem) (by kcj_all) rfl rfl hs.1 hs.2
theorem lsum2_sn {w mean mg mb} {d2 : Addr} {x2 y2 P A : Int} {t3 t4 tA tP : Tok} {c2 : Nat} {news : Led}
   (hq : (d2, tup2 x2 y2 t3 t4 c2) ∈ news) (hs : Sm x2 ∧ Sm y2) :
   CallOk w mean mg mb 124 2 [.ref d2, .none, .int A tA, .int P tP] news (ResV (some (x2, y2))) := by
  k_with_none
  w_top off
  k_with "binaryOp Mod int int" => (k_here; refine' modN (by first | decide | assumption | omega) ?_; k_whole; intro wmr wmt9 wmk9 wme wml wmu)
  k_with "binaryOp FloorDiv int int" => (k_here; refine' divN (by first | decide | assumption | omega) (by first | decide | omega) ?_; k_whole; intro wmr wmt9 wmk9 wme)
  k_with "binaryOp Mult int int" => (k_here; refine' mulT (by first | exact okL (by decide) (by decide) | exact okR (by decide) (by decide) | exact okLs (by assumption) (by assumption) | exact okRs (by assumption) (by assumption) | exact okLP (by assumption) (by assumption) (by assumption) | exact okRP (by assumption) (by assumption) (by assumption) | exact okL (by omega) (by omega) | exact okR (by omega) (by omega)) ?_; k_whole; intro wmt9 wmk9)
  k_with "binaryOp Pow int int" => (k_here; (first | refine' pow2 (by omega) (by omega) ?_ | refine' pow3 (by omega) (by omega) ?_ | refine' pow4 (by omega) (by omega) ?_); k_whole; intro wmt9 wmk9)
  k_with "binaryOp Add int int" => (k_here; refine' addT ?_; k_whole; intro wmt9 wmk9)
  k_with "binaryOp Sub int int" => (k_here; refine' subT ?_; k_whole; intro wmt9 wmk9)
  k_with "call builtin:pow" => (k_here; refine' powN3 (by omega) (by omega) ?_; k_whole; intro wpr wpt9 wpk9 wpe wpl wpu)
  unfold CallOk
  k_fill
  intro dp un gd cn cs a ccd cl outer A₀ base h₀ L m s Q E BB F X NN T hk hd hu hret
  refine wpAny_call ?_
  k_dflt cell_enter
  k_steps
  all_goals exact endV_some (Q := Q) (s := s) hret (by assumption) (by assumption) (by k_mem) (by kcj_all) rfl rfl hs.1 hs.2
theorem lsum2V_ok {w mean mg mb} {v1 v2 : Value} {S T : Option (Int × Int)} {P A : Int} {tA tP : Tok} {news : Led}
   (hp : PtIs news v1 S) (hq : PtIs news v2 T) (hs : 2 < P ∧ Sm P ∧ Sm A) :
   CallOk w mean mg mb 124 2 [v1, v2, .int A tA, .int P tP] news (ResV (lsum2 P A S T)) := by
  match S, T, hp, hq with
  | none, none, e1, e2 => subst e1 e2; exact lsum2_nn
  | none, some T, e1, ⟨d, t1, t2, c, e, hm, h1, h2⟩ => subst e1 e; exact lsum2_ns hm ⟨h1, h2⟩
  | some S, none, ⟨d, t1, t2, c, e, hm, h1, h2⟩, e2 => subst e2 e; exact lsum2_sn hm ⟨h1, h2⟩
  | some S, some T, ⟨d, t1, t2, c, e, hm, h1, h2⟩, ⟨d', t1', t2', c', e', hm', h1', h2'⟩ => subst e e'; exact lsum2_ss hm hm' ⟨hs, ⟨h1, h2⟩, h1', h2'⟩

end
section
theorem named_lt {l : Addr} {news : Led} {P : Prop} (_h : ∀ p ∈ news, p.1 < l) (h : ∀ y, y = l → P) : P := h l rfl
/-- how a turn of a for ends -/
def ForEnd (h₀ : Heap) (L : Addr) (J : (Str → Option Value) → Led → Prop) (I : Addr) (oI : Obj) (s : Shared) (Q : Flow → Shared → Prop) (f : Flow) (s₂ : Shared) : Prop :=
  match f with
  | .ret v => Q (.ret v) s₂
  | .brk => Q .next s₂
  | _ => ∃ h' tk m' nx, s₂ = { s with heap := h', toks := tk } ∧ Fr h₀ L h' m' ∧ News h₀ L h' ((I, oI) :: nx) ∧ (∀ p ∈ nx, p.1 ≠ I) ∧ J m' nx
theorem ForEnd.intro {h₀ h' : Heap} {L : Addr} {J : (Str → Option Value) → Led → Prop} {I : Addr} {oI : Obj} {s : Shared} {Q : Flow → Shared → Prop} {m' : Str → Option Value} {nx led : Led} {tk : Nat}
    (F : Fr h₀ L h' m') (N : News h₀ L h' led) (hi : (I, oI) ∈ led) (hs : ∀ p ∈ nx, p ∈ led) (hn : ∀ p ∈ nx, p.1 ≠ I) (hJ : J m' nx) : ForEnd h₀ L J I oI s Q .next { s with heap := h', toks := tk } :=
  ⟨h', tk, m', nx, rfl, F, fun p hp => by
    rcases List.mem_cons.mp hp with rfl | hp
    · exact N _ hi
    · exact N _ (hs p hp), hn, hJ⟩
section
variable {prog : Program} {w : World} {A : Around} {E : Value → Shared → Prop} {s : Shared} {env : Env} {h₀ : Heap} {x : Str} {body : List Stmt} {Q : Flow → Shared → Prop}
/-- a for over a range, by an invariant over the turn's number, the frame's names and the ledger -/
theorem range_own {r : Addr} {a₀ b₀ : Int} {t₀ u₀ v₀ : Tok} {n : Nat} {m₀ : Str → Option Value} {news : Led} (J : Nat → (Str → Option Value) → Led → Prop)
    (hh : A.handled = none) (hr : IsRange s.heap r a₀ b₀ 1 t₀ u₀ v₀) (hsmall : Builtin.Range.small a₀ b₀ 1 = true) (hn : Builtin.Range.rangeSize a₀ b₀ 1 = (n : Int)) (F : Fr h₀ env.locals s.heap m₀) (N : News h₀ env.locals s.heap news) (hj : J 0 m₀ news)
    (turn : ∀ i t m₁ nx h tk I oI, i < n → J i m₁ nx → (∀ p ∈ nx, p.1 ≠ I) → Fr h₀ env.locals h (fun y => if y = x then some (.int (a₀ + (i : Nat)) t) else m₁ y) → News h₀ env.locals h ((I, oI) :: nx) →
      wpAny (model prog w) A (execs body env) (ForEnd h₀ env.locals (J (i + 1)) I oI { s with heap := h, toks := tk } Q) E { s with heap := h, toks := tk })
    (done : ∀ m₁ nx h tk, J n m₁ nx → Fr h₀ env.locals h m₁ → News h₀ env.locals h nx → Q .next { s with heap := h, toks := tk }) :
    wpAny (model prog w) A (pyIter (.ref r)) (fun it s₂ => LoopAtV prog w A h₀ env x body Q E it s₂) E s := by
  refine wpAny_pyIter_range hr hsmall ?_
  have hI0 : h₀.get? s.heap.objs.size = none := next_is_new F
  refine ⟨_, _, _, n, _, _, m₀, news, J, rfl, (Walks.range hh s.heap.objs.size a₀ 1 n).bound, ?_, ?_, ?_, ?_, F.push _, fun p hp => ⟨Heap.get?_push_of_some _ (N p hp).1, (N p hp).2⟩, hj, ?_, ?_⟩
  · intro hm
    exact absurd F.ns.lt ((List.mem_singleton.mp hm) ▸ Nat.lt_irrefl _)
  · intro b hb
    rw [List.mem_singleton.mp hb]
    exact hI0
  · intro p hp hI
    exact absurd (Heap.lt_size (N p hp).1) ((List.mem_singleton.mp hI) ▸ Nat.lt_irrefl _)
  · show IsRangeIter _ _ _ _ _
    rw [hn]
    simpa using Heap.get?_push_size _ rfl
  · rintro i v m₁ nx s₁ own ⟨hh', tk', rfl⟩ hin ⟨_, t, ev⟩ hJ hoff hown _ hfp hst F₁ N₁
    have ev' : v = .int (a₀ + (i : Nat)) t := by rw [ev]; congr 1; omega
    subst ev'
    obtain ⟨oI, hoI⟩ : ∃ oI, (s.heap.objs.size, oI) ∈ own := ⟨_, hfp _ (List.mem_singleton.mpr rfl) hI0 _ hst⟩
    have hne : ∀ p ∈ nx, p.1 ≠ s.heap.objs.size := fun p hp e => hoff p hp (List.mem_singleton.mpr e)
    have hall : ∀ p ∈ own, p = (s.heap.objs.size, oI) := fun p hp => by
      have e1 := List.mem_singleton.mp (hown p hp)
      have e2 := (N₁ p (List.mem_append_left _ hp)).1
      have e3 := (N₁ _ (List.mem_append_left _ hoI)).1
      rw [e1] at e2
      have e4 := e2.symm.trans e3
      exact Prod.ext e1 (Option.some.inj e4)
    have N₂ : News h₀ env.locals hh' ((s.heap.objs.size, oI) :: nx) := fun p hp => N₁ p (by
      rcases List.mem_cons.mp hp with rfl | hp
      · exact List.mem_append_left _ hoI
      · exact List.mem_append_right _ hp)
    refine wpAny_mono (turn i t m₁ nx hh' tk' _ oI hin hJ hne F₁ N₂) (fun f s₂ p => ?_) fun _ _ e => e
    have fin : (∃ h' tk m' nx', s₂ = { s with heap := h', toks := tk } ∧ Fr h₀ env.locals h' m' ∧ News h₀ env.locals h' ((s.heap.objs.size, oI) :: nx') ∧ (∀ p ∈ nx', p.1 ≠ s.heap.objs.size) ∧ J (i + 1) m' nx') →
        LoopStepU h₀ env.locals [s.heap.objs.size] own (J (i + 1)) { s with heap := hh', toks := tk' } .next s₂ := by
      rintro ⟨h', tk, m', nx', e, F', N', hn', hm⟩
      refine ⟨rfl, h', tk, m', nx', e, F', fun p hp => N' p ?_, fun p hp hq => hn' p hp (List.mem_singleton.mp hq), hm⟩
      rcases List.mem_append.mp hp with hp | hp
      · rw [hall p hp]; exact List.mem_cons_self
      · exact List.mem_cons_of_mem _ hp
    cases f with
    | ret v => exact .ret p
    | brk => exact .brk p
    | next => exact .next (fin p)
    | cont => exact .cont (fin p)
  · rintro h' tk m' nx' F' N' _ hJ
    exact done m' nx' h' tk hJ F' N'
end
theorem rangeSize_up {a b : Int} {n : Nat} (h : b - a = (n : Int)) : Builtin.Range.rangeSize a b 1 = (n : Int) := by
  unfold Builtin.Range.rangeSize
  by_cases hab : a < b <;> simp [hab] <;> omega
theorem range_small {a b : Int} (h1 : -(2 ^ 40) < a) (h2 : a < 2 ^ 40) (h3 : -(2 ^ 40) < b) (h4 : b < 2 ^ 40) (h5 : a ≤ b) : Builtin.Range.small a b 1 = true := by
  have e : Builtin.Range.rangeSize a b 1 = ((b - a).toNat : Int) := rangeSize_up (by omega)
  unfold Builtin.Range.small
  rw [e]
  simp [Builtin.Range.rangeFitsLong]
  omega

def bm (u : Str → Option Value) : List (Str × Value) → Str → Option Value
  | [] => u
  | q :: r => fun x => if x = q.1 then some q.2 else bm u r x
theorem map_bm {m : Str → Option Value} : ∀ {ps : List (Str × Value)}, (∀ q ∈ ps, m q.1 = some q.2) → m = bm m ps
  | [], _ => rfl
  | q :: r, h => by
    funext x
    show m x = if x = q.1 then some q.2 else bm m r x
    by_cases hx : x = q.1
    · rw [if_pos hx, hx]; exact h q (.head _)
    · rw [if_neg hx]; exact congrFun (map_bm fun q hq => h q (.tail _ hq)) x
/-- how a turn of a while ends -/
def TurnEnd (h₀ : Heap) (L : Addr) (s : Shared) (J : Nat → (Str → Option Value) → Led → Prop) (Q : Flow → Shared → Prop) (n : Nat) (f : Flow) (s₃ : Shared) : Prop := WhileStep2 h₀ L s J Q n f s₃
theorem TurnEnd.intro {h₀ h' : Heap} {L : Addr} {s : Shared} {J : Nat → (Str → Option Value) → Led → Prop} {Q : Flow → Shared → Prop} {n n' tk : Nat} {m₂ : Str → Option Value} {news₂ : Led}
    (F : Fr h₀ L h' m₂) (N : News h₀ L h' news₂) (hn : n' < n) (hJ : J n' m₂ news₂) : TurnEnd h₀ L s J Q n .next { s with heap := h', toks := tk } := ⟨h', tk, m₂, news₂, n', rfl, F, N, hn, hJ⟩
section
variable {prog : Program} {w : World} {A : Around} {E : Value → Shared → Prop} {Q : Flow → Shared → Prop} {s : Shared} {env : Env} {h₀ : Heap} {L : Addr}
theorem wh_own {test : Expr} {body : List Stmt} {pos : Pos} {m : Str → Option Value} {news : Led} (J : Nat → (Str → Option Value) → Led → Prop) {n₀ : Nat}
    (F : Fr h₀ L s.heap m) (N : News h₀ L s.heap news) (hJ : J n₀ m news)
    (turn : ∀ n m₁ news₁ h₁ tk₁, Fr h₀ L h₁ m₁ → News h₀ L h₁ news₁ → J n m₁ news₁ →
      wpAny (model prog w) A (isTrue test env (eval test env)) (fun b s₂ =>
        if b = true then wpAny (model prog w) A (execs body env) (TurnEnd h₀ L s J Q n) E s₂ else Q .next s₂) E { s with heap := h₁, toks := tk₁ })
    (hE : PassesOwn (model prog w) A env E := by passes_own) :
    wpAny (model prog w) A (exec (.While test body [] pos) env) Q E s := While_inv2 J F N hJ turn hE
end



local macro_rules | `(tactic| k_all) => `(tactic| first | assumption | exact fun p hp => Nat.ne_of_lt ((by assumption : ∀ p ∈ _, p.1 < _) p hp))
local macro_rules | `(tactic| k_ne) => `(tactic| first | assumption | exact Ne.symm (by assumption))


theorem news_off {h₀ h : Heap} {L : Addr} {led : Led} {a b : Addr} {o o' : Obj} (N : News h₀ L h led) (ha : (a, o) ∈ led) (hb : (b, o') ∈ led) (hne : o ≠ o') : a ≠ b := fun e => by
  subst e
  exact hne (Option.some.inj ((N _ ha).1.symm.trans (N _ hb).1))
theorem tup_list {T : Int × Int} {s1 s2 : Tok} {d c : Nat} {its : Array Value} : tup2 T.1 T.2 s1 s2 d ≠ W.listOf its c := fun e => by
  have := congrArg Obj.cls e
  simp [W.listOf] at this
theorem resV_off {h₀ h : Heap} {L l : Addr} {led nw : Led} {S : Option (Int × Int)} {r : Value} {its : Array Value} {c : Nat} (o : ResV S r nw) (N : News h₀ L h (nw ++ led)) (hl : (l, W.listOf its c) ∈ led) : ∀ p ∈ nw, p.1 ≠ l := by
  match S, o with
  | none, o => rw [o.2]; exact fun _ h => nomatch h
  | some T, ⟨D, X, Y, s1, s2, d, e, _, _, _, hn⟩ =>
    subst hn
    intro p hp
    have e1 := List.mem_singleton.mp hp
    rw [e1]
    exact news_off N (List.mem_append_left _ (List.Mem.head _)) (List.mem_append_right _ hl) (tup_list (T := (X, Y)))
theorem lmul2_succ {P A : Int} {G : Option (Int × Int)} {j : Nat} (h : 1 ≤ j) : lmul2 P A G (j + 1) = lsum2 P A (lmul2 P A G j) G := by
  obtain ⟨n, rfl⟩ : ∃ n, j = n + 1 := ⟨j - 1, by omega⟩
  rfl
theorem row_push {rest rest' : Led} {P A : Int} {G : Option (Int × Int)} {its : Array Value} {v : Value} {j : Nat} (hsz : its.size = j) (hs : ∀ p ∈ rest, p ∈ rest') (hv : PtIs rest v (lmul2 P A G j))
    (hrow : ∀ i, i < j → ∃ u, its[i]? = some u ∧ PtIs rest u (lmul2 P A G i)) : ∀ i, i < j + 1 → ∃ u, (its.push v)[i]? = some u ∧ PtIs rest' u (lmul2 P A G i) := by
  intro i hi
  by_cases h : i < j
  · obtain ⟨u, e, hu⟩ := hrow i h
    refine ⟨u, ?_, hu.up hs⟩
    rw [Array.getElem?_push, if_neg (by omega)]; exact e
  · have e : i = j := by omega
    subst e
    exact ⟨v, by rw [← hsz]; simp, hv.up hs⟩
/-- between the turns of _law_round -/
def RJ2 (P A : Int) (G : Option (Int × Int)) (N : Nat) (l : Addr) (vp : Value) (tA tP : Tok) (news : Led) (k : Nat) (m : Str → Option Value) (nx : Led) : Prop :=
  ∃ its c v j rest, nx = (l, W.listOf its c) :: rest ∧ (∀ p ∈ rest, p.1 ≠ l) ∧ (∀ p ∈ news, p ∈ rest) ∧ its.size = j ∧ 1 ≤ j ∧ j ≤ N ∧ k = N - j ∧ PtIs rest v (lmul2 P A G j) ∧
    (∀ i, i < j → ∃ u, its[i]? = some u ∧ PtIs rest u (lmul2 P A G i)) ∧ (∀ q ∈ [(Str.ofString "now", v), (Str.ofString "row", Value.ref l), (Str.ofString "point", vp), (Str.ofString "linear", Value.int A tA), (Str.ofString "prime", Value.int P tP)], m q.1 = some q.2)
/-- what _law_round gives -/
def ResR (P A : Int) (G : Option (Int × Int)) (N : Nat) (news : Led) (r : Value) (nw : Led) : Prop :=
  ∃ l its c, r = .ref l ∧ (l, W.listOf its c) ∈ nw ∧ its.size = N ∧ ∀ i, i < N → ∃ u, its[i]? = some u ∧ PtIs (nw ++ news) u (lmul2 P A G i)
theorem round_ok {w mean mg mb} {d : Addr} {x y P A : Int} {t1 t2 tA tP : Tok} {c : Nat} {news : Led} {N : Nat}
   (hp : (d, tup2 x y t1 t2 c) ∈ news) (hs : (2 < P ∧ Sm P ∧ Sm A) ∧ Sm x ∧ Sm y) (hN : 1 < N ∧ N ≤ 255) (h0 : lmul2 P A (some (x, y)) N = none) (h1 : ∀ j, 0 < j → j < N → lmul2 P A (some (x, y)) j ≠ none) :
   CallOk w mean mg mb 131 4 [.ref d, .int A tA, .int P tP] news (ResR P A (some (x, y)) N news) := by
  k_with_none
  w_top off
  k_with "binaryOp Mod int int" => (k_here; refine' modN (by first | decide | assumption | omega) ?_; k_whole; intro wmr wmt9 wmk9 wme wml wmu)
  k_with "binaryOp FloorDiv int int" => (k_here; refine' divN (by first | decide | assumption | omega) (by first | decide | omega) ?_; k_whole; intro wmr wmt9 wmk9 wme)
  k_with "binaryOp Mult int int" => (k_here; refine' mulT (by first | exact okL (by decide) (by decide) | exact okR (by decide) (by decide) | exact okLs (by assumption) (by assumption) | exact okRs (by assumption) (by assumption) | exact okLP (by assumption) (by assumption) (by assumption) | exact okRP (by assumption) (by assumption) (by assumption) | exact okL (by omega) (by omega) | exact okR (by omega) (by omega)) ?_; k_whole; intro wmt9 wmk9)
  k_with "binaryOp Pow int int" => (k_here; (first | refine' pow2 (by omega) (by omega) ?_ | refine' pow3 (by omega) (by omega) ?_ | refine' pow4 (by omega) (by omega) ?_); k_whole; intro wmt9 wmk9)
  k_with "binaryOp Add int int" => (k_here; refine' addT ?_; k_whole; intro wmt9 wmk9)
  k_with "binaryOp Sub int int" => (k_here; refine' subT ?_; k_whole; intro wmt9 wmk9)
  k_with "exec While" => (k_here; (fail_if_success (have pass9 : Pass := by assumption)); refine Hold.of ?_)
  k_with "exec While Compare cons nil" => (k_here; (fail_if_success (have pass9 : Pass := by assumption)); refine Hold.of ?_)
  k_with "exec While Compare" => (k_here; (fail_if_success (have pass9 : Pass := by assumption)); refine Hold.of ?_)
  k_with "pyIter ref" => (k_here; (fail_if_success (have pass9 : Pass := by assumption)); refine Hold.of ?_)
  k_with "call builtin:list.append" => (k_here; k_dflt (refine' append_K (by k_asm) (by k_asm) (by k_upd) ?_ (by (rw [sizeLine_eq]; (try simp only [Array.size_push]); omega)); k_whole); intro h' F' N')
  k_with "call ref" => (k_here; (with_reducible show wpAny _ _ (call (Value.ref 124) _) _ _ _); k_dflt (refine' callOk_use (by k_asm) (by k_asm) (by k_asm) (by k_asm) (by k_asm) (by first | exact rfl | assumption) (lsum2V_ok (by first | assumption | exact PtIs.up (by assumption) (by kcj_all)) (by first | assumption | exact PtIs.up (by assumption) (by kcj_all)) (by ((repeat' (first | assumption | with_reducible apply And.intro)); all_goals omega))) (by ktr_room) (by ktr_units) ?_; intro wr9 wnw9 wh9 wtk9 wF9 wN9 wo9; (have pt9 := ptIs_N wN9 wo9); (try k_sweep); (try dsimp only); (try k_fold)))
  unfold CallOk
  k_fill
  intro dp un gd cn cs a ccd cl outer A₀ base h₀ L m s Q E BB F X NN TT hk hd hu hret
  obtain ⟨hN1, hN2⟩ := hN
  have hpv : PtIs news (.ref d) (some (x, y)) := ptIs_mk hp hs.2.1 hs.2.2
  obtain ⟨⟨hP0, ⟨hP1, hP2⟩, hA1, hA2⟩, ⟨hx1, hx2⟩, hy1, hy2⟩ := hs
  refine wpAny_call ?_
  k_dflt cell_enter
  k_steps
  unfold Hold
  rename ∀ p ∈ news, p.1 < _ => l1
  refine named_lt l1 ?_
  intro l9 el9
  subst el9
  rename Fr _ _ _ _ => lF
  rename News _ _ _ ((_, W.listOf _ _) :: _) => lN
  with_unfolding_all refine' wh_own (RJ2 P A (some (x, y)) N l9 (.ref d) tA tP news) (n₀ := N - 1) lF lN ?zst ?ztn
  case zst =>
    refine ⟨_, _, .ref d, 1, news, rfl, fun p hp => Nat.ne_of_lt (l1 p hp), fun p hp => hp, rfl, by decide, by omega, rfl, hpv, ?_, ?_⟩
    · intro i hi
      have : i = 0 := by omega
      subst this
      exact ⟨.none, rfl, rfl⟩
    · intro q hq
      simp only [List.mem_cons, List.not_mem_nil, or_false] at hq
      rcases hq with rfl | rfl | rfl | rfl | rfl <;> rfl
  case ztn =>
    rintro k m1 nx h tk F1 N1 ⟨its, c2, v, j, rest, enx, hoff, hsub, hsz, hj1, hj2, hk2, hv, hrow, hm⟩
    subst enx
    rw [map_bm hm] at F1
    dsimp only [bm] at F1
    have hmem : (l9, W.listOf its c2) ∈ (l9, W.listOf its c2) :: rest := List.mem_cons_self
    have hpt : PtIs rest (.ref d) (some (x, y)) := hpv.up hsub
    clear lF lN hm
    match hS : lmul2 P A (some (x, y)) j, hv with
    | none, hv =>
      have hjN : j = N := by
        by_cases hlt : j < N
        · exact absurd hS (h1 j (by omega) hlt)
        · omega
      have hv' : v = .none := hv
      subst hv'
      k_steps
      refine hret (.ref l9) ((l9, W.listOf its c2) :: rest) _ _ (by assumption) ?_ ⟨l9, its, c2, rfl, List.mem_cons_self, hsz.trans hjN, fun i hi => ?_⟩
      · refine news_sub (by assumption) fun p hp => ?_
        rcases List.mem_append.mp hp with hp | hp
        · exact hp
        · exact List.mem_cons_of_mem _ (hsub p hp)
      · obtain ⟨u, e, hu⟩ := hrow i (by omega)
        exact ⟨u, e, hu.up fun p hp => List.mem_append_left _ (List.mem_cons_of_mem _ hp)⟩
    | some T, hv =>
      have hjN : j < N := by
        by_cases hlt : j < N
        · exact hlt
        · have : j = N := by omega
          rw [this, h0] at hS
          exact absurd hS (by simp)
      obtain ⟨d2, s1, s2, c3, ev, hm2, hT1, hT2⟩ := id hv
      subst ev
      k_steps
      rename Fr _ _ _ _ => lF
      rename News _ _ _ _ => lN
      refine TurnEnd.intro (news₂ := (l9, W.listOf (its.push (.ref d2)) (c2 + 1)) :: (wnw9 ++ rest)) (n' := N - (j + 1)) lF ?_ (by omega) ⟨_, _, wr9, j + 1, wnw9 ++ rest, rfl, ?_, ?_, ?_, by omega, by omega, rfl, ?_, ?_, ?_⟩
      · refine news_sub lN fun p hp => ?_
        rcases List.mem_cons.mp hp with rfl | hp
        · exact List.mem_append_right _ List.mem_cons_self
        · rcases List.mem_append.mp hp with hp | hp
          · exact List.mem_append_left _ hp
          · exact List.mem_append_right _ (List.mem_cons_of_mem _ hp)
      · intro p hp
        rcases List.mem_append.mp hp with hp | hp
        · exact resV_off wo9 lN List.mem_cons_self p hp
        · exact hoff p hp
      · exact fun p hp => List.mem_append_right _ (hsub p hp)
      · rw [Array.size_push, hsz]
      · rw [lmul2_succ hj1, hS]
        exact ptIs_of_res wo9
      · exact row_push hsz (fun p hp => List.mem_append_right _ hp) (by rw [hS]; exact hv) hrow
      · intro q hq
        simp only [List.mem_cons, List.not_mem_nil, or_false] at hq
        rcases hq with rfl | rfl | rfl | rfl | rfl <;> rfl

end
section

local macro_rules | `(tactic| k_all) => `(tactic| first | assumption | exact fun p hp => Nat.ne_of_lt ((by assumption : ∀ p ∈ _, p.1 < _) p hp))
local macro_rules | `(tactic| k_ne) => `(tactic| first | assumption | exact Ne.symm (by assumption))


theorem bval_append (ks : List Int) (k : Int) : bval (ks ++ [k]) = bval ks * 256 + k := by simp [bval]
theorem take_snoc {ks : List Int} {i : Nat} (h : i < ks.length) : ks.take (i + 1) = ks.take i ++ [ks.getD i 0] := by
  rw [List.take_add_one, List.getElem?_eq_getElem h, List.getD_eq_getElem?_getD, List.getElem?_eq_getElem h]
  rfl
theorem val_step {ks : List Int} {n i : Nat} (hn : ks.length = n) (hi : i < n) : bval (ks.take i) * 256 ^ (n - i) + ks.getD i 0 * 256 ^ (n - 1 - i) = bval (ks.take (i + 1)) * 256 ^ (n - (i + 1)) := by
  rw [take_snoc (by omega), bval_append, show n - i = (n - (i + 1)) + 1 by omega, show n - 1 - i = n - (i + 1) by omega, Int.pow_succ, Int.add_mul]
  have e : bval (ks.take i) * ((256 : Int) ^ (n - (i + 1)) * 256) = bval (ks.take i) * 256 * 256 ^ (n - (i + 1)) := by
    rw [Int.mul_comm ((256 : Int) ^ (n - (i + 1))) 256, Int.mul_assoc]
  rw [e]
/-- between the turns of _law_value -/
def VJ2 (arr : Array UInt8) (tb : Tok) (news : Led) (i : Nat) (m : Str → Option Value) (nx : Led) : Prop :=
  ∃ tot t1, nx = news ∧ tot = bval ((KBw.bInts arr).take i) * 256 ^ (arr.size - i) ∧ (∀ q ∈ [(Str.ofString "total", Value.int tot t1), (Str.ofString "octets", Value.bytes arr tb)], m q.1 = some q.2)
theorem value2_ok {w mean mg mb} {arr : Array UInt8} {tb : Tok} {news : Led} (hs : arr.size ≤ 64) :
   CallOk w mean mg mb 143 2 [.bytes arr tb] news (ResI (bval (KBw.bInts arr))) := by
  k_with_none
  w_top off
  k_with "binaryOp Mod int int" => (k_here; refine' modN (by first | decide | assumption | omega) ?_; k_whole; intro wmr wmt9 wmk9 wme wml wmu)
  k_with "binaryOp FloorDiv int int" => (k_here; refine' divN (by first | decide | assumption | omega) (by first | decide | omega) ?_; k_whole; intro wmr wmt9 wmk9 wme)
  k_with "binaryOp Mult int int" => (k_here; refine' mulT (by first | exact okL (by decide) (by decide) | exact okR (by decide) (by decide) | exact okLs (by assumption) (by assumption) | exact okRs (by assumption) (by assumption) | exact okLP (by assumption) (by assumption) (by assumption) | exact okRP (by assumption) (by assumption) (by assumption) | exact okL (by omega) (by omega) | exact okR (by omega) (by omega)) ?_; k_whole; intro wmt9 wmk9)
  k_with "binaryOp Pow int int" => (k_here; (first | refine' pow2 (by omega) (by omega) ?_ | refine' pow3 (by omega) (by omega) ?_ | refine' pow4 (by omega) (by omega) ?_); k_whole; intro wmt9 wmk9)
  k_with "binaryOp Add int int" => (k_here; refine' addT ?_; k_whole; intro wmt9 wmk9)
  k_with "binaryOp Sub int int" => (k_here; refine' subT ?_; k_whole; intro wmt9 wmk9)
  k_with "pyIter ref" => (k_here; (fail_if_success (have pass9 : Pass := by assumption)); refine Hold.of ?_)
  k_with "call builtin:list.append" => (k_here; k_dflt (refine' append_K (by k_asm) (by k_asm) (by k_upd) ?_ (by (rw [sizeLine_eq]; (try simp only [Array.size_push]); omega)); k_whole); intro h' F' N')
  k_with "binaryOp Pow int int" => (k_here; refine' pow_int_small (by omega) (by omega) (by decide) ?_; k_whole)
  k_with "subscriptTail" => (k_here; (with_reducible show wpAny _ _ (subscriptTail _ _ (Value.bytes _ _) (Value.int _ _)) _ _ _); refine' KBw.item_K rfl (by omega) (by omega) (by omega) ?_ (by with_unfolding_all rfl) (by (intro _; with_unfolding_all rfl)); intro wt9 wk9 wlo9 wup9)
  unfold CallOk
  k_fill
  intro dp un gd cn cs a ccd cl outer A₀ base h₀ L m s Q E B F X NN T hk hd hu hret
  have hks : (KBw.bInts arr).length = arr.size := KBw.ints_length arr
  refine wpAny_call ?_
  k_dflt cell_enter
  k_steps
  unfold Hold
  rename IsRange _ _ _ _ _ _ _ _ => hr
  rename Fr _ _ _ _ => lF
  rename News _ _ _ _ => lN
  with_unfolding_all refine' range_own (n := arr.size) (VJ2 arr tb news) (by rfl) hr ?zsm ?zsz lF lN ?zst ?ztn ?zdn
  case zsm => exact range_small (by omega) (by omega) (by omega) (by omega) (by omega)
  case zsz => exact rangeSize_up (by omega)
  case zst =>
    refine ⟨0, _, rfl, ?_, List.forall_mem_cons.mpr ⟨rfl, List.forall_mem_cons.mpr ⟨rfl, List.forall_mem_nil _⟩⟩⟩
    rw [List.take_zero]; simp [bval]
  case ztn =>
    rintro i ti m1 nx h tk I oI hi ⟨tot, t1, enx, htot, hm⟩ hne F1 N1
    subst enx
    rw [map_bm hm] at F1
    dsimp only [bm] at F1
    clear hm lF lN hr
    k_steps
    rename Fr _ _ _ _ => lF
    rename News _ _ _ _ => lN
    refine' ForEnd.intro lF lN List.mem_cons_self (fun p hp => List.Mem.tail _ hp) hne ⟨_, _, rfl, ?_, List.forall_mem_cons.mpr ⟨rfl, List.forall_mem_cons.mpr ⟨rfl, List.forall_mem_nil _⟩⟩⟩
    rw [htot, ← val_step hks hi, show (0 + (i : Int)).toNat = i by omega, show ((arr.size : Int) - 1 - (0 + (i : Int))).toNat = arr.size - 1 - i by omega]
  case zdn =>
    rintro m1 nx h tk ⟨tot, t1, enx, htot, hm⟩ F1 N1
    subst enx
    rw [map_bm hm] at F1
    dsimp only [bm] at F1
    clear hm lF lN hr
    k_steps
    refine endI (Q := Q) (s := s) hret (by assumption) (by assumption) (by kcj_all) ?_
    rw [htot, Nat.sub_self, ← hks, List.take_length]; simp

end
section
section
variable {prog : Program} {w : World} {A : Around} {E : Value → Shared → Prop} {s : Shared} {a b : Int} {t u : Tok} {Q : Value → Shared → Prop}
theorem pow256_bnd {b : Int} (h0 : 0 ≤ b) (h1 : b < 7) : 0 < (256 : Int) ^ b.toNat ∧ (256 : Int) ^ b.toNat < 2 ^ 63 := by
  refine ⟨Int.pow_pos (by decide), ?_⟩
  have : b = 0 ∨ b = 1 ∨ b = 2 ∨ b = 3 ∨ b = 4 ∨ b = 5 ∨ b = 6 := by omega
  rcases this with rfl | rfl | rfl | rfl | rfl | rfl | rfl <;> decide
theorem div256E (h0 : 0 ≤ b) (h1 : b < 7) (h : Q (.int (a / 256 ^ b.toNat) s.toks) { s with toks := s.toks + 1 }) :
    wpAny (model prog w) A (binaryOp .FloorDiv (.int a t) (.int (256 ^ b.toNat) u)) Q E s := by
  obtain ⟨p0, p1⟩ := pow256_bnd h0 h1
  refine floordiv_int (by omega) ?_ (.inl (PyProof.noPylong_of_log2 ?_))
  · rw [Int.fdiv_eq_ediv_of_nonneg _ (by omega)]
    exact h
  · have h1 : ((256 : Int) ^ b.toNat).natAbs < 2 ^ 63 := by omega
    have h2 : ((256 : Int) ^ b.toNat).natAbs ≠ 0 := by omega
    exact Nat.lt_trans ((Nat.log2_lt h2).mpr h1) (by decide)
theorem mod256E (h : Q (.int (a % 256) s.toks) { s with toks := s.toks + 1 }) :
    wpAny (model prog w) A (binaryOp .Mod (.int a t) (.int 256 u)) Q E s := by
  refine mod_int' (by decide) ?_
  rw [Int.fmod_eq_emod_of_nonneg _ (by decide)]
  exact h
end


def ResB2 (r : Value) (nw : Led) : Prop := ∃ arr t, r = .bytes arr t ∧ nw = [] ∧ arr.size ≤ 64
theorem oct2_ok {w mean mg mb} {n k : Int} {t tk1 : Tok} {news : Led} (hs : 0 ≤ k ∧ k < 7) : CallOk w mean mg mb 136 2 [.int n t, .int k tk1] news ResB2 := by
  k_with_none
  w_top off
  k_with "binaryOp Pow int int" => (k_here; refine' pow_int_small (by omega) (by omega) (by decide) ?_; k_whole)
  k_with "binaryOp FloorDiv int int" => (k_here; refine' div256E (by omega) (by omega) ?_; k_whole)
  k_with "binaryOp Mod int int" => (k_here; refine' mod256E ?_; k_whole)
  unfold CallOk
  k_fill
  intro dp un gd cn cs a ccd cl outer A₀ base h₀ L m s Q E B F X NN T hk hd hu hret
  obtain ⟨hk1, hk2⟩ := hs
  refine wpAny_call ?_
  k_dflt (refine' code_defC ?k1 ?k2 ?k3 ?k4 ?k5 ?kA ?kF ?kK ?k6 ?k7 ?k8 ?k9 ?kB ?kD ?_ ?c2 ?c3 ?c4; (case kA => exact rfl); (case kF => exact rfl); (case kK => assumption); (case k1 => k_asm); (case k2 => k_asm); (case k3 => k_asm); (case k4 => k_asm); (case k5 => k_asm); (case k6 => k_is); (case k7 => k_is); (case k8 => ktr_room); (case k9 => exact BindsTo.of_eq rfl); (case kB => exact rfl); (case kD => decide +kernel); (case c2 => exact rfl); (case c3 => exact rfl); (case c4 => exact rfl); k_whole; intro g' L' h' tk' cells' FG' F' N' Y' B' X' T' l1; (try k_lt l1); k_cells Y'; (try simp only [List.cons_append, List.nil_append] at N'); (try dsimp only); (try k_lift B'); (try k_fold))
  k_steps
  exact hret _ [] _ _ (by assumption) (news_sub (by assumption) (by kcj_all)) ⟨_, _, rfl, rfl, by rw [byteArr_size, List.length_map, rangeKs_length]; omega⟩

end
section

theorem plain_ok {w mean mg mb} {v : Value} {S : Option (Int × Int)} {news : Led} (hp : PtIs news v S) :
   CallOk w mean mg mb 150 1 [v] news (Res2 (flatI S)) := by
  k_with_none
  w_top off
  k_with "binaryOp Mod int int" => (k_here; refine' modN (by first | decide | assumption | omega) ?_; k_whole; intro wmr wmt9 wmk9 wme wml wmu)
  k_with "binaryOp FloorDiv int int" => (k_here; refine' divN (by first | decide | assumption | omega) (by first | decide | omega) ?_; k_whole; intro wmr wmt9 wmk9 wme)
  k_with "binaryOp Mult int int" => (k_here; refine' mulT (by first | exact okL (by decide) (by decide) | exact okR (by decide) (by decide) | exact okLs (by assumption) (by assumption) | exact okRs (by assumption) (by assumption) | exact okLP (by assumption) (by assumption) (by assumption) | exact okRP (by assumption) (by assumption) (by assumption) | exact okL (by omega) (by omega) | exact okR (by omega) (by omega)) ?_; k_whole; intro wmt9 wmk9)
  k_with "binaryOp Pow int int" => (k_here; (first | refine' pow2 (by omega) (by omega) ?_ | refine' pow3 (by omega) (by omega) ?_ | refine' pow4 (by omega) (by omega) ?_); k_whole; intro wmt9 wmk9)
  k_with "binaryOp Add int int" => (k_here; refine' addT ?_; k_whole; intro wmt9 wmk9)
  k_with "binaryOp Sub int int" => (k_here; refine' subT ?_; k_whole; intro wmt9 wmk9)
  match S, hp with
  | none, hp =>
    subst hp
    unfold CallOk
    k_fill
    intro dp un gd cn cs a ccd cl outer A₀ base h₀ L m s Q E BB F X NN TT hk hd hu hret
    refine wpAny_call ?_
    k_dflt cell_enter
    k_steps
    all_goals exact end2 (Q := Q) (s := s) hret (by assumption) (by assumption) (by k_mem) (by kcj_all) rfl (by decide) (by decide)
  | some T, ⟨d, t1, t2, c, e, hm, h1, h2⟩ =>
    subst e
    unfold CallOk
    k_fill
    intro dp un gd cn cs a ccd cl outer A₀ base h₀ L m s Q E BB F X NN TT hk hd hu hret
    refine wpAny_call ?_
    k_dflt cell_enter
    k_steps
    all_goals exact end2 (Q := Q) (s := s) hret (by assumption) (by assumption) (by k_mem) (by kcj_all) rfl h1 h2

end
section
/-! a call of a def with a try, out of a frame that has cells: the library's rule asks for a frame without -/
section
variable {prog : Program} {w : World} {A₀ A : Around} {s : Shared} {base h₀ : Heap} {L : Addr} {m : Str → Option Value} {news : Led} {K : Frag} {p : Program} {loose : List Str} {mean : ExcName → Option Value} {mg mb : Str → Option Value}
  {R : Result → Shared → Prop} {name qual : Str} {params : Arguments} {body : List Stmt} {scope : Scope} {dV kV doc pm cdv ct oc : Value} {an od : Option Addr} {osl : Array (Option Value)} {f : Addr} {args : Args} {binds : List (Str × Value)} {env : Env}
theorem hid_not (N : News h₀ L s.heap news) {b : Addr} {o : Obj} (e : h₀.get? b = some o) : b ∉ news.map (·.1) := fun q => by
  obtain ⟨p, hp, rfl⟩ := List.mem_map.mp q
  rw [(N p hp).2.2] at e; cases e
theorem hid_self (N : News h₀ L s.heap news) : L ∉ news.map (·.1) := fun q => by
  obtain ⟨p, hp, e⟩ := List.mem_map.mp q
  exact (N p hp).2.1 e
theorem hid_stays (F : Fr h₀ L s.heap m) (N : News h₀ L s.heap news) : h₀.StaysIn (hideAll s.heap (news.map (·.1))) := fun b o e => hideAll_get _ (F.keep b o e) (hid_not N e)
theorem hid_below (B : Below A₀ base [] h₀) (F : Fr h₀ L s.heap m) (N : News h₀ L s.heap news) (hA : A.frames = some [env]) (hf : env.frame = some L) (hke : env.scope.kind = .function) : Below A base [env] (hideAll s.heap (news.map (·.1))) := by
  refine ⟨hA, fun b o e => hid_stays F N b o (B.stays b o e), funFrames_hideAll (pushX B F hf hke).frames fun e he b hb hfb => ?_⟩
  rw [List.mem_singleton.mp he, hf] at hfb
  exact hid_self N ((Option.some.inj hfb : L = b) ▸ hb)
theorem one_frame (hf : env.frame = some L) {b : Addr} (hb : b ∈ [env].filterMap (·.frame)) : b = L := by
  obtain ⟨e, he, h⟩ := List.mem_filterMap.mp hb
  rw [List.mem_singleton.mp he, hf] at h
  exact (Option.some.inj h).symm
theorem def_try (B : Below A₀ base [] h₀) (F : Fr h₀ L s.heap m) (X₀ : K.In h₀) (N : News h₀ L s.heap news) (T : Top p loose mean mg mb h₀) (hA : A.frames = some [env]) (hf : env.frame = some L) (hke : env.scope.kind = .function)
    (ho : K.lookup f = some ⟨oc, od, .func (fnOf name qual params body scope dV kV doc pm an cdv ct), osl⟩) (hcd : codeIn K cdv qual = true) (hroom : A.depth < recursionLimit)
    (hbind : BindsTo s (fnOf name qual params body scope dV kV doc pm an cdv ct) args binds) (hloc : ∀ y ∈ binds, scope.names.lookup y.1 = some .local)
    (h : ∀ g L' h₁, Fr h₀ L g m → Fr g L' h₁ (fun y => binds.reverse.lookup y) → News g L' h₁ news → Below A base [env] g → K.In g → Top p loose mean mg mb g → KtsDicts ([env].filterMap (·.frame)) g →
      wpAny (model prog w) (A.deeper (envOf qual scope L' f cdv)) (execs body (envOf qual scope L' f cdv))
        (fun fl s' => LeaveS0 ([env].filterMap (·.frame)) h₀ L m g R (match fl with | .ret v => v | _ => .none) s')
        (fun e s' => wpAny (model prog w) (A.deeper (envOf qual scope L' f cdv)) (leaving (envOf qual scope L' f cdv) e) (fun _ s'' => R (.error e) s'') (fun e' s'' => R (.error e') s'') s')
        { s with heap := h₁, toks := s.toks + binds.length })
    (hco : scope.isCoroutine = false) (hgen : scope.isGenerator = false) (hk : scope.kind = .function)
    (hcell : ∀ x ∈ scope.names, x.2 ≠ .cell) : codeAny (model prog w) A (.call (.ref f) args) R s := by
  have X := X₀.keeps F.keep
  have st := hid_stays F N
  have B₂ := hid_below B F N hA hf hke
  obtain ⟨oL, es, ep, hL, hLd, hLk, hLf⟩ := F.ns
  have hLg := hideAll_get (news.map (·.1)) hL (hid_self N)
  refine codeAny_call_def (fd := fnOf name qual params body scope dV kV doc pm an cdv ct) (body := body) (binds := binds) hroom (X _ _ ho) rfl (T.nolimit.keeps F.keep) (codeRec_of X hcd) rfl hbind hcell hloc (fun h₁ hns hk₁ => ?_) hco hgen hk
  have F₁ : Fr h₀ L (hideAll s.heap (news.map (·.1))) m := ⟨⟨oL, es, ep, hLg, hLd, hLk, hLf⟩, st, F.above⟩
  have F₂ : Fr (hideAll s.heap (news.map (·.1))) s.heap.objs.size h₁ (fun y => binds.reverse.lookup y) := ⟨hns, fun b o e => hk₁ b o (of_hideAll _ e), Nat.le_of_eq (hideAll_size _ _)⟩
  have N₂ : News (hideAll s.heap (news.map (·.1))) s.heap.objs.size h₁ news := fun p hp => ⟨hk₁ _ _ (N p hp).1, Nat.ne_of_lt (Heap.lt_size (N p hp).1), hideAll_none _ (List.mem_map_of_mem hp)⟩
  have D₂ : KtsDicts ([env].filterMap (·.frame)) (hideAll s.heap (news.map (·.1))) := fun b hb => by
    rw [one_frame hf hb]; exact ⟨oL, es, ep, hLg, hLd⟩
  refine wpAny_mono (h _ s.heap.objs.size h₁ F₁ F₂ N₂ B₂ (X₀.keeps st) (T.keeps st) D₂) (fun fl s' hl => ?_) fun _ _ y => y
  obtain ⟨g', L', m', news', T', F', N', k⟩ := hl
  have nL₀ : h₀.get? L = none := kts_self F
  obtain ⟨sl, hs⟩ := T'.up hLg
  refine k ⟨⟨_, es, ep, F'.keep _ _ hs, hLd, hLk, hLf⟩, fun b o e => F'.keep b o (T'.other b o (st b o e) fun q => ?_), F.above⟩ fun p hp => ⟨(N' p hp).1, fun q => ?_, ?_⟩
  · rw [one_frame hf q, nL₀] at e; cases e
  · have := (N' p hp).2.2; rw [q, hs] at this; cases this
  · cases q : h₀.get? p.1 with
    | none => rfl
    | some o =>
      obtain ⟨sl', hs'⟩ := T'.up (st _ _ q)
      have := (N' p hp).2.2
      rw [hs'] at this
      cases this
end
/-- a call out of the law's own frame, which has cells -/
def CallLawC (w : World) (mean : ExcName → Option Value) (mg mb : Str → Option Value) (f : Addr) (vs : List Value) (news : Led) (out : Value → Led → Prop) : Prop :=
  ∀ (cn : Str) (cs : Scope) (a : Addr) (ccd : Value) (cl : List (Str × Addr)) (h₀ : Heap) (L : Addr) (m : Str → Option Value) (s : Shared) (Q E : Value → Shared → Prop),
    Below callerA h₀ [] h₀ → Fr h₀ L s.heap m → (hd.heap_39 w.params).In h₀ → News h₀ L s.heap news → Top hd.view_39 (looseW hd.view_39 []) mean mg mb h₀ → cs.kind = .function →
    (∀ r nw h' tk', Fr h₀ L h' m → News h₀ L h' (nw ++ news) → out r nw → Q r { s with heap := h', toks := tk' }) →
    wpAny (model PySem.Challenge.rw_iv0042_02.row.prog w) (callerA.deeper (envX cn cs L a ccd cl)) (call (.ref f) vs) Q E s
theorem callLawC_use {w : World} {mean : ExcName → Option Value} {mg mb : Str → Option Value} {f : Addr} {vs : List Value} {news : Led} {out : Value → Led → Prop}
    {cn : Str} {cs : Scope} {a : Addr} {ccd : Value} {cl : List (Str × Addr)} {h₀ : Heap} {L : Addr} {m : Str → Option Value} {s : Shared} {Q E : Value → Shared → Prop}
    (B : Below callerA h₀ [] h₀) (F : Fr h₀ L s.heap m) (X : (hd.heap_39 w.params).In h₀) (N : News h₀ L s.heap news) (T : Top hd.view_39 (looseW hd.view_39 []) mean mg mb h₀) (hk : cs.kind = .function)
    (C : CallLawC w mean mg mb f vs news out)
    (ret : ∀ r nw h' tk', Fr h₀ L h' m → News h₀ L h' (nw ++ news) → out r nw → Q r { s with heap := h', toks := tk' }) :
    wpAny (model PySem.Challenge.rw_iv0042_02.row.prog w) (callerA.deeper (envX cn cs L a ccd cl)) (call (.ref f) vs) Q E s :=
  C _ _ _ _ _ _ _ _ _ _ _ B F X N T hk ret










theorem told2_ok {w mean mg mb} {cv tv : Addr} {ma : Array UInt8} {v r s3 P N A B Gx Gy : Int} {tm t1 t2 t3 u1 u2 u3 u4 u5 u6 : Tok} {c c' : Nat} {news : Led}
   (hp : (tv, tup3 v r s3 t1 t2 t3 c) ∈ news) (hc : (cv, tup6 P N A B Gx Gy u1 u2 u3 u4 u5 u6 c') ∈ news) (hs : (1 < P ∧ Sm P ∧ Sm A ∧ Sm B) ∧ (Sm Gx ∧ Sm Gy) ∧ (1 < N ∧ N < 2 ^ 20) ∧ ma.size ≤ 64 ∧ Sm v ∧ Sm r) :
   CallLawC w mean mg mb 157 [.bytes ma tm, .ref tv, .ref cv] news (ResO (fun x => x = .none) (precover P N A B Gx Gy (bval (KBw.bInts ma)) v r s3)) := by
  k_with_none
  w_top off
  k_with "binaryOp Mod int int" => (k_here; refine' modN (by first | decide | assumption | omega) ?_; k_whole; intro wmr wmt9 wmk9 wme wml wmu)
  k_with "binaryOp FloorDiv int int" => (k_here; refine' divN (by first | decide | assumption | omega) (by first | decide | omega) ?_; k_whole; intro wmr wmt9 wmk9 wme)
  k_with "binaryOp Mult int int" => (k_here; refine' mulT (by first | exact okL (by decide) (by decide) | exact okR (by decide) (by decide) | exact okLs (by assumption) (by assumption) | exact okRs (by assumption) (by assumption) | exact okLP (by assumption) (by assumption) (by assumption) | exact okRP (by assumption) (by assumption) (by assumption) | exact okL (by omega) (by omega) | exact okR (by omega) (by omega)) ?_; k_whole; intro wmt9 wmk9)
  k_with "binaryOp Pow int int" => (k_here; (first | refine' pow2 (by omega) (by omega) ?_ | refine' pow3 (by omega) (by omega) ?_ | refine' pow4 (by omega) (by omega) ?_); k_whole; intro wmt9 wmk9)
  k_with "binaryOp Add int int" => (k_here; refine' addT ?_; k_whole; intro wmt9 wmk9)
  k_with "binaryOp Sub int int" => (k_here; refine' subT ?_; k_whole; intro wmt9 wmk9)
  k_with "binaryOp BitXor int int" => (k_here; (first | refine' xor0 (by omega) (by omega) ?_ | refine' xor1 (by omega) (by omega) ?_ | refine' xorB (by omega) (by omega) (by omega) (by omega) ?_); k_whole; intro wxb wxt9 wxk9 wxe wxl wxu)
  k_with "call builtin:pow" => (k_here; refine' powN3 (by omega) (by omega) ?_; k_whole; intro wpr wpt9 wpk9 wpe wpl wpu)
  k_with "isTrue BoolOp" => (k_here; (with_reducible show wpAny _ _ (isTrue (Expr.BoolOp BoolOp.Or _ _) _ _) _ _ _); (fail_if_success (have pass9 : Pass := by assumption)); refine Hold.of ?_)
  k_with "isTrue Compare" => (k_here; (with_reducible show wpAny _ _ (isTrue (Expr.Compare _ [CmpOp.NotIn] _ _) _ _) _ _ _); (fail_if_success (have pass9 : Pass := by assumption)); refine Hold.of ?_)
  k_with "eval IfExp" => (k_here; (fail_if_success (have pass9 : Pass := by assumption)); refine Hold.of ?_)
  k_with "joinParts" => (k_here; (first | (with_reducible show wpAny _ _ (joinParts _ []) _ _ _) | (with_reducible show wpAny _ _ (joinParts _ (evalEach [] _)) _ _ _)); refine Hold.of ?_)
  k_with "call ref" => (k_here; (with_reducible show wpAny _ _ (call (Value.ref 35) _) _ _ _); k_dflt (refine' callOk_use (by k_asm) (by k_asm) (by k_asm) (by k_asm) (by k_asm) (by first | exact rfl | assumption) (inv_ok (by ((repeat' (first | assumption | with_reducible apply And.intro)); all_goals omega))) (by ktr_room) (by ktr_units) ?_; rintro wr9 wnw9 wh9 wtk9 wF9 wN9 ⟨wy9, wt9, we9, ⟨wy9l, wy9u⟩, we91, we92⟩; subst we91; subst we92; (try simp only [List.cons_append, List.nil_append] at wN9); (try k_sweep); (try dsimp only); (try k_fold)))
  k_with "call ref" => (k_here; (with_reducible show wpAny _ _ (call (Value.ref 28) _) _ _ _); k_dflt (refine' callOk_use (by k_asm) (by k_asm) (by k_asm) (by k_asm) (by k_asm) (by first | exact rfl | assumption) (bytes_ok (by first | assumption | omega)) (by ktr_room) (by ktr_units) ?_; rintro wr9 wnw9 wh9 wtk9 wF9 wN9 ⟨wt9, we91, we92⟩; subst we91; subst we92; (try simp only [List.cons_append, List.nil_append] at wN9); (try k_sweep); (try dsimp only); (try k_fold)))
  k_with "call ref" => (k_here; (with_reducible show wpAny _ _ (call (Value.ref 56) _) _ _ _); k_dflt (refine' callOk_use (by k_asm) (by k_asm) (by k_asm) (by k_asm) (by k_asm) (by first | exact rfl | assumption) (jadd_ok (by k_mem) (by k_mem) (by k_mem) (by ((repeat' (first | assumption | with_reducible apply And.intro)); all_goals omega))) (by ktr_room) (by ktr_units) ?_; rintro wr9 wnw9 wh9 wtk9 wF9 wN9 ⟨wD9, wX9, wY9, wZ9, ws91, ws92, ws93, wd9, we9, ⟨wX9l, wX9u⟩, ⟨wY9l, wY9u⟩, ⟨wZ9l, wZ9u⟩, we91, we92⟩; subst we91; subst we92; (try simp only [List.cons_append, List.nil_append] at wN9); (try k_sweep); (try dsimp only); (try k_fold)))
  k_with "call ref" => (k_here; (with_reducible show wpAny _ _ (call (Value.ref 70) _) _ _ _); k_dflt (refine' callOk_use (by k_asm) (by k_asm) (by k_asm) (by k_asm) (by k_asm) (by first | exact rfl | assumption) (jmul_ok (by k_mem) (by k_mem) (by ((repeat' (first | assumption | with_reducible apply And.intro)); all_goals omega))) (by ktr_room) (by ktr_units) ?_; rintro wr9 wnw9 wh9 wtk9 wF9 wN9 ⟨wD9, wX9, wY9, wZ9, ws91, ws92, ws93, wd9, we9, ⟨wX9l, wX9u⟩, ⟨wY9l, wY9u⟩, ⟨wZ9l, wZ9u⟩, we91, we92⟩; subst we91; subst we92; (try simp only [List.cons_append, List.nil_append] at wN9); (try k_sweep); (try dsimp only); (try k_fold)))
  k_with "call ref" => (k_here; (with_reducible show wpAny _ _ (call (Value.ref 42) _) _ _ _); k_dflt (refine' callOk_use (by k_asm) (by k_asm) (by k_asm) (by k_asm) (by k_asm) (by first | exact rfl | assumption) (toJ_ok (by k_mem) (by ((repeat' (first | assumption | with_reducible apply And.intro)); all_goals omega))) (by ktr_room) (by ktr_units) ?_; rintro wr9 wnw9 wh9 wtk9 wF9 wN9 ⟨wD9, wX9, wY9, wZ9, ws91, ws92, ws93, wd9, we9, ⟨wX9l, wX9u⟩, ⟨wY9l, wY9u⟩, ⟨wZ9l, wZ9u⟩, we91, we92⟩; subst we91; subst we92; (try simp only [List.cons_append, List.nil_append] at wN9); (try k_sweep); (try dsimp only); (try k_fold)))
  k_with "call ref" => (k_here; (with_reducible show wpAny _ _ (call (Value.ref 63) _) _ _ _); k_dflt (refine' callOk_use (by k_asm) (by k_asm) (by k_asm) (by k_asm) (by k_asm) (by first | exact rfl | assumption) (fromJ_ok (by k_mem) (by k_mem) (by ((repeat' (first | assumption | with_reducible apply And.intro)); all_goals omega))) (by ktr_room) (by ktr_units) ?_; rintro wr9 wnw9 wh9 wtk9 wF9 wN9 ⟨wD9, wX9, wY9, ws91, ws92, wd9, we9, ⟨wX9l, wX9u⟩, ⟨wY9l, wY9u⟩, we91, we92⟩; subst we91; subst we92; (try simp only [List.cons_append, List.nil_append] at wN9); (try k_sweep); (try dsimp only); (try k_fold)))
  unfold CallLawC
  k_fill
  intro cn cs a ccd cl h₀ L m s Q E BB F X NN T hk hret
  obtain ⟨⟨hP0, ⟨hP1, hP2⟩, ⟨hA1, hA2⟩, hB1, hB2⟩, ⟨⟨hx1, hx2⟩, hy1, hy2⟩, ⟨hN1, hN2⟩, hb1, ⟨hv1, hv2⟩, hr1, hr2⟩ := hs
  refine wpAny_call ?_
  k_dflt (refine' def_try ?k1 ?k2 ?k3 ?k4 ?k5 ?kA ?kF ?kE ?k6 ?k7 ?k8 ?k9 ?kB ?_ ?c2 ?c3 ?c4 ?c5; (case kA => exact rfl); (case kF => exact rfl); (case kE => assumption); (case k2 => k_asm); (case k1 => k_asm); (case k3 => k_asm); (case k4 => k_asm); (case k5 => k_asm); (case k6 => k_is); (case k7 => k_is); (case k8 => k_room); (case k9 => exact BindsTo.of_eq rfl); (case kB => exact locs rfl); (case c2 => exact rfl); (case c3 => exact rfl); (case c4 => exact rfl); (case c5 => decide); k_whole; intro g' L' h' FG' F' N' B' X' T' D'; (try dsimp only); (try k_lift B'); (try k_fold))
  k_steps
  unfold Hold
  refine' cutB ?F ?N (¬ (v = 27 ∨ v = 28)) ?h ?k
  case F => assumption
  case N => assumption
  case h =>
    intro Q9 pass hq
    k_steps
    all_goals (refine hq _ _ _ (by assumption) (news_sub (by assumption) (by kcj_all)) notin_iff)
  case k =>
    intro b9 h9 tk9 F9 N9 hb9
    (try k_sweep)
    (try dsimp only)
    (try k_fold)
    k_steps
    · unfold Hold
      with_reducible refine joinParts_nilE ?_
      (try dsimp only)
      with_reducible refine joinParts_nil ?_ (hsz := ?z)
      rotate_left 1
      · refine jp_len ?a ?b ?c
        case a => omega
        case b => omega
        case c => decide +kernel
      k_steps
      exact endO_none (Q := Q) (s := s) hret (by assumption) (by assumption) (by kcj_all) (rec_none1 (b_yes hb9 (by assumption))) rfl
    unfold Hold
    refine' cutI ?F ?N (fun y => y = ybeta P A B v r ∧ Sm y) ?h ?k
    case F => assumption
    case N => assumption
    case h =>
      intro Q9 pass hq
      k_steps
      all_goals (refine hq _ _ _ _ (by assumption) (news_sub (by assumption) (by kcj_all)) ⟨?_, by omega⟩; first | exact yb_1 (by assumption) (by assumption) (by assumption) (by assumption) (by assumption) (by assumption) (by assumption) | exact yb_2 (by assumption) (by assumption) (by assumption) (by assumption) (by assumption) (by assumption) (by assumption))
    case k =>
      rintro y9 t9 h8 tk8 F8 N8 ⟨hy9, hyl, hyu⟩
      (try k_sweep)
      (try dsimp only)
      (try k_fold)
      k_steps
      unfold Hold
      refine' cutB ?F ?N (recBad P N A B v r s3 = true) ?h ?k
      case F => assumption
      case N => assumption
      case h =>
        intro Q9 pass hq
        k_steps
        all_goals (refine hq _ _ _ (by assumption) (news_sub (by assumption) (by kcj_all)) ?_; first | exact rb_1 (by assumption) (by assumption) (by assumption) (by assumption) | exact rb_2 (by assumption) (by assumption) | exact rb_3 (by assumption) (by assumption) | exact rb_4 (by assumption) (by assumption) (by assumption) (by assumption) (by assumption) (by assumption) (by assumption) (by assumption))
      case k =>
        intro b8 h7 tk7 F7 N7 hb8
        (try k_sweep)
        (try dsimp only)
        (try k_fold)
        k_steps
        · unfold Hold
          with_reducible refine joinParts_nilE ?_
          (try dsimp only)
          with_reducible refine joinParts_nil ?_ (hsz := ?z2)
          rotate_left 1
          · refine jp_len ?a2 ?b2 ?c2
            case a2 => omega
            case b2 => omega
            case c2 => decide +kernel
          k_steps
          exact endO_none (Q := Q) (s := s) hret (by assumption) (by assumption) (by kcj_all) (rec_none2 (b_yes hb8 (by assumption))) rfl
        · have hv : v = 27 ∨ v = 28 := Decidable.not_not.mp (by first | exact b_no hb9 (by assumption) | exact b_no' hb9 (by assumption))
          have hg : ¬ recBad P N A B v r s3 = true := by first | exact b_no hb8 (by assumption) | exact b_no' hb8 (by assumption)
          refine endO_some (Q := Q) (s := s) hret (by assumption) (by assumption) (by k_mem) (by kcj_all) (rec_some hv hg hy9 (by assumption) (by assumption) (by assumption) (by assumption) (by assumption) (by assumption) (by assumption)) rfl (by omega) (by omega)

end
section
/-! the points of a curve as _law_points counts them -/
def rootOf (P : Int) : Nat → Int → Option Int
  | 0, _ => none
  | h + 1, sq => if (1 + (h : Int)) * (1 + (h : Int)) % P = sq then some (1 + (h : Int)) else rootOf P h sq
def ptsAt (P A B : Int) (H : Nat) (x : Int) : List (Option (Int × Int)) :=
  (if (x ^ 3 + A * x + B) % P = 0 then [some (x, 0)] else []) ++ (match rootOf P H ((x ^ 3 + A * x + B) % P) with | none => [] | some h => [some (x, h), some (x, P - h)])
def ptsTo (P A B : Int) (H : Nat) : Nat → List (Option (Int × Int))
  | 0 => [none]
  | n + 1 => ptsTo P A B H n ++ ptsAt P A B H (n : Int)
theorem rootOf_bnd {P : Int} : ∀ {H : Nat} {sq h : Int}, rootOf P H sq = some h → 1 ≤ h ∧ h ≤ (H : Int)
  | 0, _, _, e => nomatch e
  | H + 1, sq, h, e => by
    unfold rootOf at e
    by_cases c : (1 + (H : Int)) * (1 + (H : Int)) % P = sq
    · rw [if_pos c] at e
      have e1 := Option.some.inj e
      omega
    · rw [if_neg c] at e
      have := rootOf_bnd e
      omega
theorem va_ne {K : Type} [DecidableEq K] {k q : K} (v : Value) (h : k ≠ q) : ∀ kvs : List (K × Value), valueAt (kvs.map (fun kv => if kv.1 = k then (kv.1, v) else kv)) q = valueAt kvs q
  | [] => rfl
  | a :: l => by
    have ih := va_ne v h l
    unfold valueAt at ih ⊢
    rw [List.map_cons, List.find?_cons, List.find?_cons]
    have e1 : (if a.1 = k then (a.1, v) else a).1 = a.1 := by by_cases c : a.1 = k <;> simp [c]
    rw [e1]
    by_cases c : a.1 = q
    · have c2 : a.1 ≠ k := fun z => h (z.symm.trans c)
      simp [c, c2, Ne.symm h]
    · simp only [c, decide_false]
      exact ih
theorem va_eq {K : Type} [DecidableEq K] {k : K} (v : Value) : ∀ kvs : List (K × Value), (kvs.any fun kv => kv.1 = k) = true → valueAt (kvs.map (fun kv => if kv.1 = k then (kv.1, v) else kv)) k = some v
  | [], h => nomatch h
  | a :: l, h => by
    unfold valueAt
    rw [List.map_cons, List.find?_cons]
    by_cases c : a.1 = k
    · simp [c]
    · have h2 : (l.any fun kv => kv.1 = k) = true := by simpa [List.any_cons, c] using h
      have ih := va_eq v l h2
      unfold valueAt at ih
      simp only [c, if_false, decide_false]
      exact ih
theorem valueAt_stored {K : Type} [DecidableEq K] (kvs : List (K × Value)) (k : K) (v : Value) (q : K) : valueAt (stored kvs k v) q = if k = q then some v else valueAt kvs q := by
  unfold stored
  by_cases ha : (kvs.any fun kv => kv.1 = k) = true
  · rw [if_pos ha]
    by_cases h : k = q
    · subst h; rw [if_pos rfl]; exact va_eq v kvs ha
    · rw [if_neg h]; exact va_ne v h kvs
  · rw [if_neg ha]
    unfold valueAt
    rw [List.find?_append]
    by_cases h : k = q
    · subst h
      rw [if_pos rfl]
      have : kvs.find? (fun kv => decide (kv.1 = k)) = none := by
        rw [List.find?_eq_none]
        intro x hx hk
        exact ha (List.any_eq_true.mpr ⟨x, hx, hk⟩)
      rw [this]; simp
    · rw [if_neg h]
      have : [(k, v)].find? (fun kv => decide (kv.1 = q)) = none := by simp [h]
      rw [this, Option.or_none]
/-- a root's place in the table -/
def RootV : Option Int → Option Value → Prop
  | none, v => v = none
  | some h, v => ∃ t, v = some (.int h t)
theorem rootV_step {P : Int} {i : Nat} {kvs : List (Int × Value)} {t : Tok} (h : ∀ sq, RootV (rootOf P i sq) (valueAt kvs sq)) (sq : Int) :
    RootV (rootOf P (i + 1) sq) (valueAt (stored kvs ((1 + (i : Int)) * (1 + (i : Int)) % P) (.int (1 + (i : Int)) t)) sq) := by
  rw [valueAt_stored]
  unfold rootOf
  by_cases c : (1 + (i : Int)) * (1 + (i : Int)) % P = sq
  · rw [if_pos c, if_pos c]; exact ⟨t, rfl⟩
  · rw [if_neg c, if_neg c]; exact h sq
/-- the values are those of the points -/
def PtsAre (led : Led) (its : Array Value) (S : List (Option (Int × Int))) : Prop :=
  its.size = S.length ∧ ∀ (i : Nat) (T : Option (Int × Int)), S[i]? = some T → ∃ u, its[i]? = some u ∧ PtIs led u T
theorem PtsAre.up {led led' : Led} {its : Array Value} {S : List (Option (Int × Int))} (h : PtsAre led its S) (hs : ∀ p ∈ led, p ∈ led') : PtsAre led' its S :=
  ⟨h.1, fun i T e => by obtain ⟨u, e1, e2⟩ := h.2 i T e; exact ⟨u, e1, e2.up hs⟩⟩
theorem PtsAre.push {led : Led} {its : Array Value} {S : List (Option (Int × Int))} {v : Value} {T : Option (Int × Int)} (h : PtsAre led its S) (hv : PtIs led v T) : PtsAre led (its.push v) (S ++ [T]) := by
  refine ⟨by simp [h.1], fun i T' e => ?_⟩
  rw [List.getElem?_append] at e
  rw [Array.getElem?_push]
  by_cases hi : i < S.length
  · rw [if_pos hi] at e
    rw [if_neg (by rw [h.1]; omega)]
    exact h.2 i T' e
  · rw [if_neg hi] at e
    have : i - S.length = 0 := by
      rcases Nat.eq_zero_or_pos (i - S.length) with z | z
      · exact z
      · rw [List.getElem?_eq_none (by simp; omega)] at e; cases e
    have hi2 : i = its.size := by rw [h.1]; omega
    rw [if_pos hi2]
    rw [this] at e
    have e1 : T = T' := by simpa using e
    subst e1
    exact ⟨v, rfl, hv⟩



local macro_rules | `(tactic| k_all) => `(tactic| first | assumption | exact fun p hp => Nat.ne_of_lt ((by assumption : ∀ p ∈ _, p.1 < _) p hp))
local macro_rules | `(tactic| k_ne) => `(tactic| first | assumption | exact Ne.symm (by assumption))



theorem led_ne {news : Led} {D l : Addr} {o : Obj} (h : ∀ p ∈ news, p.1 < D) (hm : (l, o) ∈ news) : l ≠ D := Nat.ne_of_lt (h _ hm)
local macro_rules | `(tactic| k_ne) => `(tactic| first | assumption | exact Ne.symm (by assumption) | exact led_ne (by assumption) (by k_mem) | exact Ne.symm (led_ne (by assumption) (by k_mem)))


/-- between the turns of the first for -/
def RT2 (w : World) (P A B : Int) (d : Addr) (tP tA tB : Tok) (news : Led) (i : Nat) (m : Str → Option Value) (nx : Led) : Prop :=
  ∃ o kvs, nx = (d, o) :: news ∧ o.IsDictOf (PySem.intKind PySem.Challenge.rw_iv0042_02.row.prog w) kvs ∧ kvs.length ≤ i ∧ (∀ sq, RootV (rootOf P i sq) (valueAt kvs sq)) ∧
    (∀ q ∈ [(Str.ofString "roots", Value.ref d), (Str.ofString "prime", Value.int P tP), (Str.ofString "linear", Value.int A tA), (Str.ofString "constant", Value.int B tB)], m q.1 = some q.2)
/-- what _law_points gives -/
def Seqs (led : Led) : Prop := ∀ p ∈ led, ∃ xs n, p.2.data = .seq xs n
theorem Seqs.nil : Seqs [] := fun _ h => nomatch h
theorem Seqs.cons {led : Led} {D : Addr} {o : Obj} {xs : Array Value} {n : Nat} (e : o.data = .seq xs n) (h : Seqs led) : Seqs ((D, o) :: led) := fun p hp => by
  rcases List.mem_cons.mp hp with rfl | hp
  · exact ⟨xs, n, e⟩
  · exact h p hp
theorem Seqs.app {a b : Led} (h : Seqs a) (k : Seqs b) : Seqs (a ++ b) := fun p hp => by
  rcases List.mem_append.mp hp with hp | hp
  · exact h p hp
  · exact k p hp
def ResPts (S : List (Option (Int × Int))) (r : Value) (nw : Led) : Prop :=
  ∃ l its c, r = .ref l ∧ (l, W.listOf its c) ∈ nw ∧ PtsAre nw its S ∧ Seqs nw
/-- between the turns of the second -/
def RQ2 (P A B : Int) (H : Nat) (d l : Addr) (o : Obj) (tP tA tB : Tok) (news : Led) (i : Nat) (m : Str → Option Value) (nx : Led) : Prop :=
  ∃ its c rest, nx = (l, W.listOf its c) :: (rest ++ (d, o) :: news) ∧ (∀ p ∈ rest ++ (d, o) :: news, p.1 ≠ l) ∧ Seqs rest ∧ its.size ≤ 1 + 3 * i ∧ PtsAre rest its (ptsTo P A B H i) ∧
    (∀ q ∈ [(Str.ofString "points", Value.ref l), (Str.ofString "roots", Value.ref d), (Str.ofString "prime", Value.int P tP), (Str.ofString "linear", Value.int A tA), (Str.ofString "constant", Value.int B tB)], m q.1 = some q.2)
theorem lt_ne {l d : Addr} {o : Obj} {news : Led} (h : d < l ∧ AllLt l news) : ∀ p ∈ (d, o) :: news, p.1 ≠ l := fun p hp => by
  rcases List.mem_cons.mp hp with rfl | hp
  · exact Nat.ne_of_lt h.1
  · exact Nat.ne_of_lt (ktn_ltOf h.2 p hp)
theorem in_yes {kvs : List (Int × Value)} {v : Value} {e sq : Int} (h : ∀ q, e = q → valueAt kvs q = some v) (he : e = sq) : (valueAt kvs sq).isSome = true := by rw [h _ he]; rfl
theorem in_no {kvs : List (Int × Value)} {e sq : Int} (h : ∀ q, e = q → valueAt kvs q = none) (he : e = sq) : (valueAt kvs sq).isSome = false := by rw [h _ he]; rfl
theorem at_yes {kvs : List (Int × Value)} {v : Value} {e sq : Int} (h : ∀ q, e = q → valueAt kvs q = some v) (he : e = sq) : valueAt kvs sq = some v := h _ he
theorem pts_push {rest : Led} {its : Array Value} {S : List (Option (Int × Int))} {D : Addr} {x y : Int} {t1 t2 : Tok} {d : Nat} (h : PtsAre rest its S) (hx : Sm x) (hy : Sm y) :
    PtsAre ((D, tup2 x y t1 t2 d) :: rest) (its.push (.ref D)) (S ++ [some (x, y)]) := (h.up (fun p hp => List.mem_cons_of_mem _ hp)).push ⟨D, t1, t2, d, rfl, List.mem_cons_self, hx, hy⟩
section
variable {P A B : Int} {H i : Nat} {rest : Led} {its : Array Value} {D1 D2 D3 : Addr} {t1 t2 t3 t4 t5 t6 : Tok} {d1 d2 d3 : Nat} {hh : Int}
theorem pts_a (h : PtsAre rest its (ptsTo P A B H i)) (hS : rootOf P H (((i : Int) ^ 3 + A * (i : Int) + B) % P) = none) (hz : ((i : Int) ^ 3 + A * (i : Int) + B) % P = 0) (hi : Sm (i : Int)) :
    PtsAre ([(D1, tup2 (i : Int) 0 t1 t2 d1)] ++ rest) (its.push (.ref D1)) (ptsTo P A B H (i + 1)) := by
  have e : ptsTo P A B H (i + 1) = ptsTo P A B H i ++ [some ((i : Int), 0)] := by
    show _ ++ ptsAt P A B H (i : Int) = _
    unfold ptsAt
    rw [hS, if_pos hz]; rfl
  rw [e]
  exact pts_push h hi ⟨by decide, by decide⟩
theorem pts_b (h : PtsAre rest its (ptsTo P A B H i)) (hS : rootOf P H (((i : Int) ^ 3 + A * (i : Int) + B) % P) = none) (hz : ((i : Int) ^ 3 + A * (i : Int) + B) % P ≠ 0) :
    PtsAre ([] ++ rest) its (ptsTo P A B H (i + 1)) := by
  have e : ptsTo P A B H (i + 1) = ptsTo P A B H i := by
    show _ ++ ptsAt P A B H (i : Int) = _
    unfold ptsAt
    rw [hS, if_neg hz]; simp
  rw [e]
  exact h
theorem pts_c (h : PtsAre rest its (ptsTo P A B H i)) (hS : rootOf P H (((i : Int) ^ 3 + A * (i : Int) + B) % P) = some hh) (hz : ((i : Int) ^ 3 + A * (i : Int) + B) % P = 0) (hi : Sm (i : Int)) (h1 : Sm hh) (h2 : Sm (P - hh)) :
    PtsAre ([(D3, tup2 (i : Int) (P - hh) t5 t6 d3), (D2, tup2 (i : Int) hh t3 t4 d2), (D1, tup2 (i : Int) 0 t1 t2 d1)] ++ rest) (((its.push (.ref D1)).push (.ref D2)).push (.ref D3)) (ptsTo P A B H (i + 1)) := by
  have e : ptsTo P A B H (i + 1) = ptsTo P A B H i ++ [some ((i : Int), 0)] ++ [some ((i : Int), hh)] ++ [some ((i : Int), P - hh)] := by
    show _ ++ ptsAt P A B H (i : Int) = _
    unfold ptsAt
    rw [hS, if_pos hz]; simp
  rw [e]
  exact pts_push (pts_push (pts_push h hi ⟨by decide, by decide⟩) hi h1) hi h2
theorem pts_d (h : PtsAre rest its (ptsTo P A B H i)) (hS : rootOf P H (((i : Int) ^ 3 + A * (i : Int) + B) % P) = some hh) (hz : ((i : Int) ^ 3 + A * (i : Int) + B) % P ≠ 0) (hi : Sm (i : Int)) (h1 : Sm hh) (h2 : Sm (P - hh)) :
    PtsAre ([(D3, tup2 (i : Int) (P - hh) t5 t6 d3), (D2, tup2 (i : Int) hh t3 t4 d2)] ++ rest) ((its.push (.ref D2)).push (.ref D3)) (ptsTo P A B H (i + 1)) := by
  have e : ptsTo P A B H (i + 1) = ptsTo P A B H i ++ [some ((i : Int), hh)] ++ [some ((i : Int), P - hh)] := by
    show _ ++ ptsAt P A B H (i : Int) = _
    unfold ptsAt
    rw [hS, if_neg hz]; simp
  rw [e]
  exact pts_push (pts_push h hi h1) hi h2
end
/-- a turn's end -/
theorem pts_end {h₀ h' : Heap} {L d l I : Addr} {o oI : Obj} {P A B : Int} {H i : Nat} {tP tA tB : Tok} {news new rest : Led} {its its' : Array Value} {c c' : Nat} {m' : Str → Option Value} {s : Shared} {tk : Nat} {Q : Flow → Shared → Prop}
    (F : Fr h₀ L h' m') (N : News h₀ L h' (new ++ (I, oI) :: (l, W.listOf its' c') :: (rest ++ (d, o) :: news))) (hnew : ∀ p ∈ new, p.1 ≠ I ∧ p.1 ≠ l) (hoff : ∀ p ∈ rest ++ (d, o) :: news, p.1 ≠ l) (hseq : Seqs (new ++ rest))
    (hne : ∀ p ∈ (l, W.listOf its c) :: (rest ++ (d, o) :: news), p.1 ≠ I) (hsz : its'.size ≤ 1 + 3 * (i + 1)) (hpts : PtsAre (new ++ rest) its' (ptsTo P A B H (i + 1)))
    (hm : ∀ q ∈ [(Str.ofString "points", Value.ref l), (Str.ofString "roots", Value.ref d), (Str.ofString "prime", Value.int P tP), (Str.ofString "linear", Value.int A tA), (Str.ofString "constant", Value.int B tB)], m' q.1 = some q.2) :
    ForEnd h₀ L (RQ2 P A B H d l o tP tA tB news (i + 1)) I oI s Q .next { s with heap := h', toks := tk } := by
  have ha : ∀ p ∈ (new ++ rest) ++ (d, o) :: news, p ∈ new ∨ p ∈ rest ++ (d, o) :: news := fun p hp => by
    rw [List.append_assoc] at hp
    exact List.mem_append.mp hp
  refine ForEnd.intro (nx := (l, W.listOf its' c') :: ((new ++ rest) ++ (d, o) :: news)) F N (List.mem_append_right _ List.mem_cons_self) (fun p hp => ?_) (fun p hp => ?_) ⟨its', c', new ++ rest, rfl, fun p hp => ?_, hseq, hsz, hpts, hm⟩
  · rcases List.mem_cons.mp hp with rfl | hp
    · exact List.mem_append_right _ (List.mem_cons_of_mem _ List.mem_cons_self)
    · rcases ha p hp with hp | hp
      · exact List.mem_append_left _ hp
      · exact List.mem_append_right _ (List.mem_cons_of_mem _ (List.mem_cons_of_mem _ hp))
  · rcases List.mem_cons.mp hp with rfl | hp
    · exact (hne (l, W.listOf its c) List.mem_cons_self : l ≠ I)
    · rcases ha p hp with hp | hp
      · exact (hnew p hp).1
      · exact hne p (List.mem_cons_of_mem _ hp)
  · rcases ha p hp with hp | hp
    · exact (hnew p hp).2
    · exact hoff p hp
theorem new_one {led : Led} {D I l : Addr} {o oI ol : Obj} (h : ∀ p ∈ led, p.1 < D) (h1 : (I, oI) ∈ led) (h2 : (l, ol) ∈ led) {new : Led} (hn : ∀ p ∈ new, p.1 ≠ I ∧ p.1 ≠ l) : ∀ p ∈ (D, o) :: new, p.1 ≠ I ∧ p.1 ≠ l := fun p hp => by
  rcases List.mem_cons.mp hp with rfl | hp
  · exact ⟨Nat.ne_of_gt (h _ h1), Nat.ne_of_gt (h _ h2)⟩
  · exact hn p hp
theorem named_two {l d : Addr} {news : Led} {P : Prop} (_h : d < l ∧ AllLt l news) (h : ∀ y, y = l → P) : P := h l rfl
theorem points_ok {w mean mg mb} {P A B : Int} {H : Nat} {tP tA tB : Tok} {news : Led} (hs : (2 < P ∧ P < 64) ∧ Sm A ∧ Sm B) (hH : P = 2 * (H : Int) + 1) :
   CallOk w mean mg mb 112 2 [.int P tP, .int A tA, .int B tB] news (ResPts (ptsTo P A B H P.toNat)) := by
  k_with_none
  w_top off
  k_with "binaryOp Mod int int" => (k_here; refine' modN (by first | decide | assumption | omega) ?_; k_whole; intro wmr wmt9 wmk9 wme wml wmu)
  k_with "binaryOp FloorDiv int int" => (k_here; refine' divN (by first | decide | assumption | omega) (by first | decide | omega) ?_; k_whole; intro wmr wmt9 wmk9 wme)
  k_with "binaryOp Mult int int" => (k_here; refine' mulT (by first | exact okL (by decide) (by decide) | exact okR (by decide) (by decide) | exact okLs (by assumption) (by assumption) | exact okRs (by assumption) (by assumption) | exact okLP (by assumption) (by assumption) (by assumption) | exact okRP (by assumption) (by assumption) (by assumption) | exact okL (by omega) (by omega) | exact okR (by omega) (by omega)) ?_; k_whole; intro wmt9 wmk9)
  k_with "binaryOp Pow int int" => (k_here; (first | refine' pow2 (by omega) (by omega) ?_ | refine' pow3 (by omega) (by omega) ?_ | refine' pow4 (by omega) (by omega) ?_); k_whole; intro wmt9 wmk9)
  k_with "binaryOp Add int int" => (k_here; refine' addT ?_; k_whole; intro wmt9 wmk9)
  k_with "binaryOp Sub int int" => (k_here; refine' subT ?_; k_whole; intro wmt9 wmk9)
  k_with "exec While" => (k_here; (fail_if_success (have pass9 : Pass := by assumption)); refine Hold.of ?_)
  k_with "exec While Compare cons nil" => (k_here; (fail_if_success (have pass9 : Pass := by assumption)); refine Hold.of ?_)
  k_with "exec While Compare" => (k_here; (fail_if_success (have pass9 : Pass := by assumption)); refine Hold.of ?_)
  k_with "pyIter ref" => (k_here; (fail_if_success (have pass9 : Pass := by assumption)); refine Hold.of ?_)
  k_with "call builtin:list.append" => (k_here; k_dflt (refine' append_K (by k_asm) (by k_asm) (by k_upd) ?_ (by (rw [sizeLine_eq]; (try simp only [Array.size_push]); omega)); k_whole); intro h' F' N')
  k_with "setItem ref int" => (k_here; k_dflt (refine' kda_set (knd := PySem.intKind _ _) (by k_asm) (by k_asm) (by k_updF) (by k_asm) (intKind_is _ _ _ _) (by (rw [sizeLine_eq]; omega)) ?_); intro wh9 wo9 wF9 wN9 whd9; (try dsimp only at wN9))
  k_with "compareOp In int ref" => (k_here; k_dflt (first | (refine' kda_in (knd := PySem.intKind _ _) (by k_asm) (by k_mem) (by assumption) (by assumption) (intKind_is _ _ _ _) true (by exact in_yes (by assumption) (by assumption)) ?_; k_whole) | (refine' kda_in (knd := PySem.intKind _ _) (by k_asm) (by k_mem) (by assumption) (by assumption) (intKind_is _ _ _ _) false (by exact in_no (by assumption) (by assumption)) ?_; k_whole)))
  k_with "subscriptTail" => (k_here; (with_reducible show wpAny _ _ (subscriptTail _ _ (Value.ref _) (Value.int _ _)) _ _ _); k_dflt (refine' kda_item (knd := PySem.intKind _ _) (by k_asm) (by k_mem) (by assumption) (intKind_is _ _ _ _) (by exact at_yes (by assumption) (by assumption)) ?_ (by with_unfolding_all rfl) (by (intro _; with_unfolding_all rfl)); k_whole))
  k_with "newTuple" => (k_here; k_dflt (refine' kup_newTuple (by k_asm) (by k_asm) ?_ (by kmk_size)); intro wD9 wh9 wF9 wN9 wl9x; (try k_sweep))
  k_with "exec If" => (k_here; refine wpAny_If ?_)
  unfold CallOk
  k_fill
  intro dp un gd cn cs a ccd cl outer A₀ base h₀ L m s Q E BB F X NN TT hk hd hu hret
  obtain ⟨⟨hP0, hP1⟩, ⟨hA1, hA2⟩, hB1, hB2⟩ := hs
  refine wpAny_call ?_
  k_dflt cell_enter
  k_steps
  unfold Hold
  rename IsRange _ _ _ _ _ _ _ _ => hr
  rename Fr _ _ _ _ => lF
  rename News _ _ _ _ => lN
  rename (P + 1) / 2 = _ => ew
  rename (_ == sysModules) = false => hlo
  rename Obj.IsDictOf (intKind _ _) _ [] => hi0
  rename ∀ p ∈ news, p.1 < _ => l1
  refine named_lt l1 ?_
  intro d9 ed9
  subst ed9
  with_unfolding_all refine' range_own (n := H) (RT2 w P A B d9 tP tA tB news) (by rfl) hr ?zsm ?zsz lF lN ?zst ?ztn ?zdn
  case zsm => exact range_small (by omega) (by omega) (by omega) (by omega) (by omega)
  case zsz => exact rangeSize_up (by omega)
  case zst => exact ⟨_, [], rfl, hi0, Nat.le_refl 0, fun sq => rfl, List.forall_mem_cons.mpr ⟨rfl, List.forall_mem_cons.mpr ⟨rfl, List.forall_mem_cons.mpr ⟨rfl, List.forall_mem_cons.mpr ⟨rfl, List.forall_mem_nil _⟩⟩⟩⟩⟩
  case ztn =>
    rintro i ti m1 nx h tk I oI hi ⟨o, kvs, enx, hdo, hlen, hroot, hm⟩ hne F1 N1
    subst enx
    rw [map_bm hm] at F1
    dsimp only [bm] at F1
    have hne1 : d9 ≠ I := hne _ List.mem_cons_self
    clear hm lF lN hr hi0
    k_steps
    rename Fr _ _ _ _ => lF
    rename News _ _ _ _ => lN
    rename _ % P = _ => es
    rename Obj.IsDictOf _ _ (stored _ _ _) => hd2
    subst es
    refine' ForEnd.intro lF lN List.mem_cons_self (fun p hp => List.Mem.tail _ hp) ?_ ⟨_, _, rfl, hd2, Nat.le_trans (stored_length_le _ _ _) (Nat.succ_le_succ hlen), rootV_step hroot, List.forall_mem_cons.mpr ⟨rfl, List.forall_mem_cons.mpr ⟨rfl, List.forall_mem_cons.mpr ⟨rfl, List.forall_mem_cons.mpr ⟨rfl, List.forall_mem_nil _⟩⟩⟩⟩⟩
    intro p hp
    rcases List.mem_cons.mp hp with rfl | hp
    · exact hne1
    · exact hne p (List.mem_cons_of_mem _ hp)
  case zdn =>
    rintro m1 nx h tk ⟨o, kvs, enx, hdo, hlen, hroot, hm⟩ F1 N1
    subst enx
    rw [map_bm hm] at F1
    dsimp only [bm] at F1
    clear hm lF lN hr hi0
    k_steps
    unfold Hold
    rename _ ∧ AllLt _ _ => l2
    refine named_two l2 ?_
    intro l9 el9
    subst el9
    rename IsRange _ _ _ _ _ _ _ _ => hr
    rename Fr _ _ _ _ => lF
    rename News _ _ _ ((_, W.listOf _ _) :: _) => lN
    with_unfolding_all refine' range_own (n := P.toNat) (RQ2 P A B H d9 l9 o tP tA tB news) (by rfl) hr ?zsm2 ?zsz2 lF lN ?zst2 ?ztn2 ?zdn2
    case zsm2 => exact range_small (by omega) (by omega) (by omega) (by omega) (by omega)
    case zsz2 => exact rangeSize_up (by omega)
    case zst2 =>
      refine ⟨_, _, [], rfl, lt_ne l2, Seqs.nil, Nat.le_refl 1, ⟨rfl, fun i T e => ?_⟩, List.forall_mem_cons.mpr ⟨rfl, List.forall_mem_cons.mpr ⟨rfl, List.forall_mem_cons.mpr ⟨rfl, List.forall_mem_cons.mpr ⟨rfl, List.forall_mem_cons.mpr ⟨rfl, List.forall_mem_nil _⟩⟩⟩⟩⟩⟩
      match i, e with
      | 0, e => exact ⟨.none, rfl, by rw [← Option.some.inj e]; rfl⟩
    case ztn2 =>
      rintro i ti m1 nx h tk I oI hi ⟨its, c, rest, enx, hoff, hseq, hsz, hpts, hm⟩ hne F1 N1
      subst enx
      rw [map_bm hm] at F1
      dsimp only [bm] at F1
      have hne1 : l9 ≠ I := hne _ List.mem_cons_self
      clear hm lF lN hr
      simp only [Int.zero_add] at F1
      have hsi : Sm (i : Int) := ⟨by omega, by omega⟩
      match hS : rootOf P H (((i : Int) ^ 3 + A * (i : Int) + B) % P), hroot (((i : Int) ^ 3 + A * (i : Int) + B) % P) with
      | none, hv =>
        have hv1 : ∀ q, ((i : Int) ^ 3 + A * (i : Int) + B) % P = q → valueAt kvs q = none := fun q e => by rw [← e]; exact hv
        clear hv
        k_steps
        · rename Fr _ _ _ _ => lF
          rename News _ _ _ _ => lN
          rename wmr = 0 => hz
          exact pts_end (new := [_]) lF lN (new_one (by assumption) (by k_mem) (by k_mem) (fun _ h => nomatch h)) hoff (Seqs.cons rfl hseq) hne (by rw [Array.size_push]; omega) (pts_a hpts hS (wme.trans hz) hsi) (List.forall_mem_cons.mpr ⟨rfl, List.forall_mem_cons.mpr ⟨rfl, List.forall_mem_cons.mpr ⟨rfl, List.forall_mem_cons.mpr ⟨rfl, List.forall_mem_cons.mpr ⟨rfl, List.forall_mem_nil _⟩⟩⟩⟩⟩)
        · rename Fr _ _ _ _ => lF
          rename News _ _ _ _ => lN
          rename wmr ≠ 0 => hz
          exact pts_end (new := []) lF lN ((fun _ h => nomatch h)) hoff hseq hne (by omega) (pts_b hpts hS (fun q => hz (wme.symm.trans q))) (List.forall_mem_cons.mpr ⟨rfl, List.forall_mem_cons.mpr ⟨rfl, List.forall_mem_cons.mpr ⟨rfl, List.forall_mem_cons.mpr ⟨rfl, List.forall_mem_cons.mpr ⟨rfl, List.forall_mem_nil _⟩⟩⟩⟩⟩)
      | some hh, ⟨t9, hv⟩ =>
        have hv1 : ∀ q, ((i : Int) ^ 3 + A * (i : Int) + B) % P = q → valueAt kvs q = some (.int hh t9) := fun q e => by rw [← e]; exact hv
        clear hv
        obtain ⟨hb1, hb2⟩ := rootOf_bnd hS
        k_steps
        · rename Fr _ _ _ _ => lF
          rename News _ _ _ _ => lN
          rename wmr = 0 => hz
          exact pts_end (new := [_, _, _]) lF lN (new_one (by assumption) (by k_mem) (by k_mem) (new_one (by assumption) (by k_mem) (by k_mem) (new_one (by assumption) (by k_mem) (by k_mem) (fun _ h => nomatch h)))) hoff (Seqs.cons rfl (Seqs.cons rfl (Seqs.cons rfl hseq))) hne (by rw [Array.size_push, Array.size_push, Array.size_push]; omega) (pts_c hpts hS (wme.trans hz) hsi ⟨by omega, by omega⟩ ⟨by omega, by omega⟩) (List.forall_mem_cons.mpr ⟨rfl, List.forall_mem_cons.mpr ⟨rfl, List.forall_mem_cons.mpr ⟨rfl, List.forall_mem_cons.mpr ⟨rfl, List.forall_mem_cons.mpr ⟨rfl, List.forall_mem_nil _⟩⟩⟩⟩⟩)
        · rename Fr _ _ _ _ => lF
          rename News _ _ _ _ => lN
          rename wmr ≠ 0 => hz
          exact pts_end (new := [_, _]) lF lN (new_one (by assumption) (by k_mem) (by k_mem) (new_one (by assumption) (by k_mem) (by k_mem) (fun _ h => nomatch h))) hoff (Seqs.cons rfl (Seqs.cons rfl hseq)) hne (by rw [Array.size_push, Array.size_push]; omega) (pts_d hpts hS (fun q => hz (wme.symm.trans q)) hsi ⟨by omega, by omega⟩ ⟨by omega, by omega⟩) (List.forall_mem_cons.mpr ⟨rfl, List.forall_mem_cons.mpr ⟨rfl, List.forall_mem_cons.mpr ⟨rfl, List.forall_mem_cons.mpr ⟨rfl, List.forall_mem_cons.mpr ⟨rfl, List.forall_mem_nil _⟩⟩⟩⟩⟩)
    case zdn2 =>
      rintro m1 nx h tk ⟨its, c, rest, enx, hoff, hseq, hsz, hpts, hm⟩ F1 N1
      subst enx
      rw [map_bm hm] at F1
      dsimp only [bm] at F1
      clear hm lF lN hr
      k_steps
      refine hret (.ref l9) ((l9, W.listOf its c) :: rest) _ _ (by assumption) ?_ ⟨l9, its, c, rfl, List.mem_cons_self, hpts.up fun p hp => List.mem_cons_of_mem _ hp, Seqs.cons rfl hseq⟩
      refine news_sub (by assumption) fun p hp => ?_
      rcases List.mem_append.mp hp with hp | hp
      · rcases List.mem_cons.mp hp with rfl | hp
        · exact List.mem_cons_self
        · exact List.mem_cons_of_mem _ (List.mem_append_left _ hp)
      · exact List.mem_cons_of_mem _ (List.mem_append_right _ (List.mem_cons_of_mem _ hp))

end
section
section
open PyProof.Rows.LCg PyProof.Rows.LCt
variable {prog : Program} {w : World} {A : Around} {E : Value → Shared → Prop} {s : Shared} {h₀ : Heap} {L : Addr} {m : Str → Option Value} {env : Env}
/-- a comprehension's source: a tuple on the ledger -/
def TupSrc (prog : Program) (w : World) (A : Around) (h₀ : Heap) (L : Addr) (m : Str → Option Value) (env : Env) (ct elt : PySem.Expr) (x : Str) (scope : Scope) (cl : List (Str × Addr)) (Fin : Shared → List Value → Led → Prop) (xv : Value) (s₁ : Shared) : Prop :=
  ∃ ax its k news, xv = .ref ax ∧ A.handled = none ∧ Fr h₀ L s₁.heap m ∧ News h₀ L s₁.heap news ∧ (ax, ({ cls := .type "tuple", data := .seq its k } : Obj)) ∈ news ∧ its.size ≤ sizeLine ∧
    ∀ g, LCt.CompRestT prog w A h₀ L m env ct elt x scope cl { s₁ with heap := g } (fun nw => (ax, ({ cls := .type "tuple", data := .seq its k } : Obj)) ∈ nw) (fun i v => its[i]? = some v) (Fin { s₁ with heap := g }) its.size 0 [] news
theorem TupSrc.intro {ct elt : PySem.Expr} {x : Str} {scope : Scope} {cl : List (Str × Addr)} {Fin : Shared → List Value → Led → Prop} {ax : Addr} {its : Array Value} {k : Nat} {news : Led} {s₁ : Shared}
    (hh : A.handled = none) (F : Fr h₀ L s₁.heap m) (N : News h₀ L s₁.heap news) (hm : (ax, ({ cls := .type "tuple", data := .seq its k } : Obj)) ∈ news) (hsz : its.size ≤ sizeLine)
    (h : ∀ g, LCt.CompRestT prog w A h₀ L m env ct elt x scope cl { s₁ with heap := g } (fun nw => (ax, ({ cls := .type "tuple", data := .seq its k } : Obj)) ∈ nw) (fun i v => its[i]? = some v) (Fin { s₁ with heap := g }) its.size 0 [] news) :
    TupSrc prog w A h₀ L m env ct elt x scope cl Fin (.ref ax) s₁ := ⟨ax, its, k, news, rfl, hh, F, N, hm, hsz, h⟩
theorem ListComp_tup {ct elt iter : PySem.Expr} {x : Str} {px : Pos} {scope : Scope} {cl : List (Str × Addr)} {pos : Pos} {Q : Value → Shared → Prop} (F₀ : Fr h₀ L s.heap m)
    (hclos : closureFor scope env = pure cl) (hcell : ∀ y ∈ scope.names, y.2 ≠ .cell) (hkind : scope.kind = .function)
    (hnames : ∀ y ∈ scope.names, y.2 = .local → scope.names.lookup y.1 = some .local) (hx : scope.names.lookup x = some .local)
    (h : wpAny (model prog w) A (eval iter env) (TupSrc prog w A h₀ L m env ct elt x scope cl (fun s₂ => FinE h₀ L m s₂ Q)) E s)
    (hs : ∀ x, foldedSetIterable iter env x = pure x := by intro _; rfl) :
    wpAny (model prog w) A (eval (.ListComp elt [⟨.Name x px, iter, [ct], 0⟩] scope pos) env) Q E s := by
  rw [eval_ListComp]
  refine wpAny_comprehension_free (use := none) rfl hs hclos hkind hnames (wpAny_mono h (fun xv s₁ h₁ => ?_) fun _ _ e => e)
  obtain ⟨ax, its, k, news, rfl, hh, F, N, hm, hsz, R⟩ := h₁
  have hl := News.isTup N hm
  have hlt : ax < s₁.heap.objs.size := Heap.lt_size (N _ hm).1
  refine wpAny_pyIter_tuple hl ?_
  have up : ∀ b o, s₁.heap.get? b = some o → (s₁.heap.push { cls := .type "tuple_iterator", data := .fields #[.ref ax, .int 0 0] }).get? b = some o := fun b o e => Heap.get?_push_of_some _ e
  refine LCt.block_T (Walks.tuple hh s₁.heap.objs.size ax (Nat.ne_of_lt hlt) its) hsz (fun i h st => by obtain ⟨o, e, _⟩ := st.1; exact ⟨o, e⟩)
    (fun i h h' o nw st e e' k N S => ⟨by obtain ⟨o', q, r⟩ := st.1; rw [e] at q; cases q; exact ⟨o, e', r⟩, News.isTup N S⟩)
    hcell hkind hx ⟨⟨_, Heap.get?_push_size _ rfl, rfl, rfl⟩, News.isTup (N.grown up) hm⟩ (fun b hb => ?_)
    (F.keeps up) (N.grown up) (Nat.ne_of_lt F.ns.lt) (next_is_new F) (fun p hp => Nat.ne_of_lt (Heap.lt_size (N p hp).1)) hm (R _) ?_
  · show b < (s₁.heap.push _).objs.size
    rw [Heap.size_push]
    rcases List.mem_cons.mp hb with rfl | hb
    · exact Nat.lt_succ_self _
    · rw [List.mem_singleton.mp hb]; exact Nat.lt_succ_of_lt hlt
  · intro D C h tk m' ys news' F' N' o1 hn hC₀ hD₀ hCL hDL hCD offC fin
    refine ⟨m', hn, fun h'' hs'' => fin D h'' tk (F'.change hs'' hCL hC₀) (fun p hp => ?_) o1⟩
    refine ⟨hs''.extBut _ _ ?_ (N' p hp).1, (N' p hp).2⟩
    rcases List.mem_cons.mp hp with rfl | hp
    · exact Ne.symm hCD
    · exact offC p hp
end



local macro_rules | `(tactic| k_all) => `(tactic| first | assumption | exact fun p hp => Nat.ne_of_lt ((by assumption : ∀ p ∈ _, p.1 < _) p hp))
local macro_rules | `(tactic| k_ne) => `(tactic| first | assumption | exact Ne.symm (by assumption))

section
variable {prog : Program} {w : World} {A : Around} {E Q : Value → Shared → Prop} {s : Shared} {a P : Int} {t u : Tok}
theorem divPP (h0 : 0 ≤ a) (h1 : a < P * P) (hP : 0 < P) (h2 : P < 64) (h : ∀ r t k, a / P = r → 0 ≤ r → r < P → Q (.int r t) { s with toks := k }) : wpAny (model prog w) A (binaryOp .FloorDiv (.int a t) (.int P u)) Q E s :=
  divN hP (by omega) fun r t k e => h r t k e (by rw [← e]; exact Int.ediv_nonneg h0 (by omega)) (by rw [← e]; exact Int.ediv_lt_of_lt_mul hP h1)
end





/-- between the turns of _law_curve's for -/
def RC2 (P n : Int) (c0 : Addr) (tP tn : Tok) (news : Led) (_i : Nat) (m : Str → Option Value) (nx : Led) : Prop :=
  ∃ oc v, nx = (c0, oc) :: news ∧ oc.data = .cell v ∧ (∀ q ∈ [(Str.ofString "prime", Value.int P tP), (Str.ofString "number", Value.int n tn)], m q.1 = some q.2)
theorem led_mid {h₀ h : Heap} {L : Addr} {nw news : Led} {d a b : Addr × Obj} (N : News h₀ L h (nw ++ d :: a :: b :: news)) : News h₀ L h (a :: b :: (nw ++ news)) := news_sub N fun p hp => by
  rcases List.mem_cons.mp hp with rfl | hp
  · exact List.mem_append_right _ (List.mem_cons_of_mem _ List.mem_cons_self)
  · rcases List.mem_cons.mp hp with rfl | hp
    · exact List.mem_append_right _ (List.mem_cons_of_mem _ (List.mem_cons_of_mem _ List.mem_cons_self))
    · rcases List.mem_append.mp hp with hp | hp
      · exact List.mem_append_left _ hp
      · exact List.mem_append_right _ (List.mem_cons_of_mem _ (List.mem_cons_of_mem _ (List.mem_cons_of_mem _ hp)))
theorem cell_off {h₀ h : Heap} {L c0 : Addr} {nw news : Led} {d a : Addr × Obj} {oc : Obj} {v : Option Value} (N : News h₀ L h (nw ++ d :: a :: (c0, oc) :: news)) (hs : Seqs nw) (hc : oc.data = .cell v) (hn : ∀ p ∈ news, p.1 ≠ c0) : ∀ p ∈ nw ++ news, p.1 ≠ c0 := fun p hp => by
  rcases List.mem_append.mp hp with hp | hp
  · obtain ⟨xs, k, e⟩ := hs p hp
    refine news_off (o := p.2) (o' := oc) N (List.mem_append_left _ hp) (List.mem_append_right _ (List.mem_cons_of_mem _ (List.mem_cons_of_mem _ List.mem_cons_self))) fun q => ?_
    rw [q, hc] at e
    cases e
  · exact hn p hp
theorem ptsAt_len {P A B : Int} {H : Nat} {x : Int} : (ptsAt P A B H x).length ≤ 3 := by
  unfold ptsAt
  generalize rootOf P H ((x ^ 3 + A * x + B) % P) = r
  cases r <;> by_cases c : (x ^ 3 + A * x + B) % P = 0 <;> simp [c]
theorem ptsTo_len {P A B : Int} {H : Nat} : ∀ n : Nat, (ptsTo P A B H n).length ≤ 1 + 3 * n
  | 0 => by simp [ptsTo]
  | n + 1 => by
    have h1 := ptsTo_len (P := P) (A := A) (B := B) (H := H) n
    have h2 := ptsAt_len (P := P) (A := A) (B := B) (H := H) (x := (n : Int))
    show (ptsTo P A B H n ++ ptsAt P A B H (n : Int)).length ≤ _
    rw [List.length_append]
    omega
theorem lenPts {prog : Program} {w : World} {A' : Around} {E Q : Value → Shared → Prop} {s : Shared} {h₀ : Heap} {L l : Addr} {led nw : Led} {its : Array Value} {c : Nat} {P A B : Int} {H n : Nat} (N : News h₀ L s.heap led) (hm : (l, W.listOf its c) ∈ led)
    (hp : PtsAre nw its (ptsTo P A B H n)) (hn : n ≤ 64) (h : ∀ y t k, y = ((ptsTo P A B H n).length : Int) → 0 ≤ y → y < 256 → Q (.int y t) { s with toks := k }) : wpAny (model prog w) A' (call (.builtin "len") [.ref l]) Q E s := by
  have h1 := ptsTo_len (P := P) (A := A) (B := B) (H := H) n
  refine len_list (News.isList N hm) (by rw [hp.1]; omega) ?_
  rw [hp.1]
  exact h _ _ _ rfl (by omega) (by omega)
/-- a curve that _law_curve takes -/
def GoodCv (P A B : Int) (H : Nat) : Prop :=
  (0 ≤ A ∧ A < P) ∧ (0 ≤ B ∧ B < P) ∧ (4 * A ^ 3 + 27 * B ^ 2) % P ≠ 0 ∧ 2 < ((ptsTo P A B H P.toNat).length : Int) ∧
    ([2, 3, 5] : List Int).foldl (fun l k => if ((ptsTo P A B H P.toNat).length : Int) % k = 0 ∧ ((ptsTo P A B H P.toNat).length : Int) ≠ k then l ++ [k] else l) [] = []
def ResCv (P0 : Int) (H0 : Nat) (r : Value) (nw : Led) : Prop :=
  ∃ (P A B : Int) (H : Nat) (D l : Addr) (its : Array Value) (c : Nat) (t1 t2 t3 : Tok) (d : Nat), r = .ref D ∧ (D, ({ cls := .type "tuple", data := .seq #[.int P t1, .int A t2, .int B t3, .ref l] d } : Obj)) ∈ nw ∧ (l, W.listOf its c) ∈ nw ∧
    PtsAre nw its (ptsTo P A B H P.toNat) ∧ ((P = P0 ∧ H = H0 ∧ GoodCv P A B H) ∨ (P = 7 ∧ A = 1 ∧ B = 1 ∧ H = 3))
theorem cv_ret {h₀ h' : Heap} {L D l : Addr} {m : Str → Option Value} {news nw led : Led} {s : Shared} {Q : Value → Shared → Prop} {tk c d : Nat} {its : Array Value} {P0 P A B : Int} {H0 H : Nat} {t1 t2 t3 : Tok}
    (hret : ∀ r nw h' tk', Fr h₀ L h' m → News h₀ L h' (nw ++ news) → ResCv P0 H0 r nw → Q r { s with heap := h', toks := tk' }) (F : Fr h₀ L h' m)
    (N : News h₀ L h' ((D, ({ cls := .type "tuple", data := .seq #[.int P t1, .int A t2, .int B t3, .ref l] d } : Obj)) :: led)) (hs : ∀ p ∈ nw ++ news, p ∈ led) (hl : (l, W.listOf its c) ∈ nw) (hp : PtsAre nw its (ptsTo P A B H P.toNat))
    (hg : (P = P0 ∧ H = H0 ∧ GoodCv P A B H) ∨ (P = 7 ∧ A = 1 ∧ B = 1 ∧ H = 3)) : Q (.ref D) { s with heap := h', toks := tk } := by
  refine hret _ ((D, _) :: nw) _ _ F (news_sub N fun p hp => ?_) ⟨P, A, B, H, D, l, its, c, t1, t2, t3, d, rfl, List.mem_cons_self, List.mem_cons_of_mem _ hl, hp.up fun p hp => List.mem_cons_of_mem _ hp, hg⟩
  rcases List.mem_cons.mp hp with rfl | hp
  · exact List.mem_cons_self
  · exact List.mem_cons_of_mem _ (hs p hp)
theorem ForEnd.ret {h₀ : Heap} {L : Addr} {J : (Str → Option Value) → Led → Prop} {I : Addr} {oI : Obj} {s s₂ : Shared} {Q : Flow → Shared → Prop} {v : Value} (h : Q (.ret v) s₂) : ForEnd h₀ L J I oI s Q (.ret v) s₂ := h
theorem cv_end {h₀ h' : Heap} {L c0 I : Addr} {oc oI : Obj} {v : Option Value} {P n : Int} {tP tn : Tok} {news led : Led} {i tk : Nat} {m' : Str → Option Value} {s : Shared} {Q : Flow → Shared → Prop}
    (F : Fr h₀ L h' m') (N : News h₀ L h' led) (hI : (I, oI) ∈ led) (hc : (c0, oc) ∈ led) (hn : ∀ p ∈ news, p ∈ led) (hd : oc.data = .cell v) (hne1 : c0 ≠ I) (hne : ∀ p ∈ news, p.1 ≠ I)
    (hm : ∀ q ∈ [(Str.ofString "prime", Value.int P tP), (Str.ofString "number", Value.int n tn)], m' q.1 = some q.2) :
    ForEnd h₀ L (RC2 P n c0 tP tn news (i + 1)) I oI s Q .next { s with heap := h', toks := tk } := by
  refine ForEnd.intro (nx := (c0, oc) :: news) F N hI (fun p hp => ?_) (fun p hp => ?_) ⟨oc, v, rfl, hd, hm⟩
  · rcases List.mem_cons.mp hp with rfl | hp
    · exact hc
    · exact hn p hp
  · rcases List.mem_cons.mp hp with rfl | hp
    · exact hne1
    · exact hne p hp
theorem ints_nil {l : List Int} (h : IntsAre [] l) : l = [] := by cases h; rfl
theorem curve_ok {w mean mg mb} {P n : Int} {H : Nat} {tP tn : Tok} {news : Led} (hs : 2 < P ∧ P < 64) (hH : P = 2 * (H : Int) + 1) : CallOk w mean mg mb 117 4 [.int P tP, .int n tn] news (ResCv P H) := by
  k_with_none
  w_top off
  k_with "binaryOp Mod int int" => (k_here; refine' modN (by first | decide | assumption | omega) ?_; k_whole; intro wmr wmt9 wmk9 wme wml wmu)
  k_with "binaryOp FloorDiv int int" => (k_here; refine' divN (by first | decide | assumption | omega) (by first | decide | omega) ?_; k_whole; intro wmr wmt9 wmk9 wme)
  k_with "binaryOp Mult int int" => (k_here; refine' mulT (by first | exact okL (by decide) (by decide) | exact okR (by decide) (by decide) | exact okLs (by assumption) (by assumption) | exact okRs (by assumption) (by assumption) | exact okLP (by assumption) (by assumption) (by assumption) | exact okRP (by assumption) (by assumption) (by assumption) | exact okL (by omega) (by omega) | exact okR (by omega) (by omega)) ?_; k_whole; intro wmt9 wmk9)
  k_with "binaryOp Pow int int" => (k_here; (first | refine' pow2 (by omega) (by omega) ?_ | refine' pow3 (by omega) (by omega) ?_ | refine' pow4 (by omega) (by omega) ?_); k_whole; intro wmt9 wmk9)
  k_with "binaryOp Add int int" => (k_here; refine' addT ?_; k_whole; intro wmt9 wmk9)
  k_with "binaryOp Sub int int" => (k_here; refine' subT ?_; k_whole; intro wmt9 wmk9)
  k_with "exec While" => (k_here; (fail_if_success (have pass9 : Pass := by assumption)); refine Hold.of ?_)
  k_with "exec While Compare cons nil" => (k_here; (fail_if_success (have pass9 : Pass := by assumption)); refine Hold.of ?_)
  k_with "exec While Compare" => (k_here; (fail_if_success (have pass9 : Pass := by assumption)); refine Hold.of ?_)
  k_with "pyIter ref" => (k_here; (fail_if_success (have pass9 : Pass := by assumption)); refine Hold.of ?_)
  k_with "call builtin:list.append" => (k_here; k_dflt (refine' append_K (by k_asm) (by k_asm) (by k_upd) ?_ (by (rw [sizeLine_eq]; (try simp only [Array.size_push]); omega)); k_whole); intro h' F' N')
  k_with "binaryOp FloorDiv int int" => (k_here; refine' divPP (by assumption) (by assumption) (by omega) (by assumption) ?_; k_whole; intro wmr wmt9 wmk9 wme wml wmu)
  k_with "execs cons" => (k_here; refine wpAny_execs_cons ?_)
  k_with "execs nil" => (k_here; refine wpAny_execs_nil ?_)
  k_with "eval ListComp" => (k_here; refine Hold.of ?_)
  k_with "exec If" => (k_here; refine wpAny_If ?_)
  k_with "call ref" => (k_here; (with_reducible show wpAny _ _ (call (Value.ref 112) _) _ _ _); k_dflt (refine' callOk_use (by k_asm) (by k_asm) (by k_asm) (by k_asm) (by k_asm) (by first | exact rfl | assumption) (points_ok (by ((repeat' (first | assumption | with_reducible apply And.intro)); all_goals omega)) (by first | assumption | exact (rfl : (7 : Int) = 2 * ((3 : Nat) : Int) + 1))) (by ktr_room) (by ktr_units) ?_; rintro wr9 wnw9 wh9 wtk9 wF9 wN9 ⟨wl9, wits9, wc9, we9, whl9, whp9, whs9⟩; subst we9; (try (have off9 := cell_off wN9 whs9 (by assumption) (by assumption))); (try (replace wN9 := led_mid wN9)); (try k_sweep); (try dsimp only); (try k_fold)))
  k_with "call ref" => (k_here; (with_reducible show wpAny _ _ (call (Value.ref 112) _) _ _ _); k_dflt (refine' callOk_use (by k_asm) (by k_asm) (by k_asm) (by k_asm) (by k_asm) (by first | exact rfl | assumption) (points_ok (H := 3) (by exact ⟨⟨by decide, by decide⟩, ⟨by decide, by decide⟩, ⟨by decide, by decide⟩⟩) (by decide)) (by ktr_room) (by ktr_units) ?_; rintro wr9 wnw9 wh9 wtk9 wF9 wN9 ⟨wl9, wits9, wc9, we9, whl9, whp9, whs9⟩; subst we9; (try k_sweep); (try dsimp only); (try k_fold)))
  k_with "call builtin:len" => (k_here; k_dflt (refine' lenPts (by k_asm) (by exact List.mem_cons_of_mem _ (List.mem_cons_of_mem _ (List.mem_append_left _ (by assumption)))) (by assumption) (by omega) ?_; intro wy9 wt9 wk9 we9y we9l we9u))
  unfold CallOk
  k_fill
  intro dp un gd cn cs a ccd cl outer A₀ base h₀ L m s Q E B F X NN T hk hd hu hret
  obtain ⟨hP1, hP2⟩ := hs
  have hPP : 0 < P * P := Int.mul_pos (by omega) (by omega)
  have hPQ : P * P < 4096 := Int.lt_of_le_of_lt (Int.mul_le_mul (show P ≤ 63 by omega) (show P ≤ 63 by omega) (by omega) (by decide)) (by decide)
  refine wpAny_call ?_
  k_dflt (refine' code_defC ?k1 ?k2 ?k3 ?k4 ?k5 ?kA ?kF ?kK ?k6 ?k7 ?k8 ?k9 ?kB ?kD ?_ ?c2 ?c3 ?c4; (case kA => exact rfl); (case kF => exact rfl); (case kK => assumption); (case k1 => k_asm); (case k2 => k_asm); (case k3 => k_asm); (case k4 => k_asm); (case k5 => k_asm); (case k6 => k_is); (case k7 => k_is); (case k8 => ktr_room); (case k9 => exact BindsTo.of_eq rfl); (case kB => exact rfl); (case kD => decide +kernel); (case c2 => exact rfl); (case c3 => exact rfl); (case c4 => exact rfl); k_whole; intro g' L' h' tk' cells' FG' F' N' Y' B' X' T' l1; (try k_lt l1); k_cells Y'; (try simp only [List.cons_append, List.nil_append] at N'); (try dsimp only); (try k_lift B'); (try k_fold))
  k_steps
  unfold Hold
  rename IsRange _ _ _ _ _ _ _ _ => hr
  rename Fr _ _ _ _ => lF
  rename News _ _ _ ((_, _) :: _) => lN
  rename Obj.data _ = Data.cell _ => hc0
  have l1' : ∀ p ∈ news, p.1 ≠ L' + 1 := fun p hp => Nat.ne_of_lt (Nat.lt_succ_of_lt (l1 p hp))
  with_unfolding_all refine' range_own (n := 20) (RC2 P n (L' + 1) tP tn news) (by rfl) hr ?zsm ?zsz lF lN ?zst ?ztn ?zdn
  case zsm => exact range_small (by omega) (by omega) (by omega) (by omega) (by omega)
  case zsz => exact rangeSize_up (by omega)
  case zst => exact ⟨_, _, rfl, hc0, List.forall_mem_cons.mpr ⟨rfl, List.forall_mem_cons.mpr ⟨rfl, List.forall_mem_nil _⟩⟩⟩
  case ztn =>
    rintro i ti m1 nx h tk I oI hi ⟨oc, v, enx, hc, hm⟩ hne F1 N1
    subst enx
    rw [map_bm hm] at F1
    dsimp only [bm] at F1
    have hne1 : L' + 1 ≠ I := hne _ List.mem_cons_self
    have hne2 : ∀ p ∈ news, p.1 ≠ I := fun p hp => hne p (List.mem_cons_of_mem _ hp)
    clear hm lF lN hr hc0
    k_steps
    · unfold Hold
      rename Fr _ _ _ _ => lF
      refine' ListComp_tup lF (by with_unfolding_all rfl) (by decide) (by rfl) (by decide) (by rfl) ?_
      k_steps
      rename Fr _ _ _ _ => lF
      rename News _ _ _ _ => lN
      refine TupSrc.intro (by rfl) lF lN List.mem_cons_self (show 3 ≤ sizeLine from Nat.le_of_ble_eq_true rfl) ?_
      intro g9
      refine' kci_rest (ks := [2, 3, 5]) (fun l k => if wy9 % k = 0 ∧ wy9 ≠ k then l ++ [k] else l) rfl ?zhP ?zturn ?zfin ?zgr
      case zhP =>
        intro i v hi hv
        match i, hi, hv with
        | 0, _, hv => exact ⟨2, _, rfl, (Option.some.inj hv).symm⟩
        | 1, _, hv => exact ⟨3, _, rfl, (Option.some.inj hv).symm⟩
        | 2, _, hv => exact ⟨5, _, rfl, (Option.some.inj hv).symm⟩
        | j + 3, hi, _ => exact absurd (show j + 3 < 3 from hi) (by omega)
      case zgr =>
        intro l k
        dsimp only
        split <;> simp
      case zturn =>
        intro k t I2 oI2 C oC D m2 ys l h tk E' hk hys hC hx F2 N2 off ne hmark
        have hk0 : 0 < k := by
          simp only [List.mem_cons, List.not_mem_nil, or_false] at hk
          omega
        clear lF lN
        k_steps
        · rename wmr = 0 => hz
          rename wy9 ≠ k => hw
          exact LCg.CompEnd.intro F2 N2 _ (fun p hp => hp) off List.mem_cons_self (kci_el (if_pos ⟨wme.trans hz, hw⟩) rfl rfl)
        · rename wy9 = k => hw
          exact LCg.CompEnd.intro F2 N2 _ (fun p hp => hp) off List.mem_cons_self (kci_no (if_neg fun q => q.2 hw) rfl)
        · rename wmr ≠ 0 => hz
          exact LCg.CompEnd.intro F2 N2 _ (fun p hp => hp) off List.mem_cons_self (kci_no (if_neg fun q => hz (wme.symm.trans q.1)) rfl)
      case zfin =>
        unfold KPfDone
        intro ys hys hlen D h tk F2 N2 off
        clear lF lN
        unfold LCg.lst at N2
        match ys, hys, N2 with
        | [], hys, N2 =>
          have hnone : ([2, 3, 5] : List Int).foldl (fun l k => if wy9 % k = 0 ∧ wy9 ≠ k then l ++ [k] else l) [] = [] := ints_nil hys
          clear hys
          k_steps
          refine ForEnd.ret ?_
          k_steps
          rename Fr h₀ _ _ _ => lF
          rename News h₀ _ _ _ => lN
          rename 2 < wy9 => h2
          rename wmr ≠ 0 => hz
          subst we9y
          exact cv_ret (Q := Q) (s := s) hret lF lN (fun p hp => List.mem_cons_of_mem _ (List.mem_cons_of_mem _ (List.mem_cons_of_mem _ (List.mem_cons_of_mem _ hp)))) whl9 whp9 (.inl ⟨rfl, rfl, ⟨by assumption, by assumption⟩, ⟨by assumption, by assumption⟩, fun q => hz (wme.symm.trans q), h2, hnone⟩)
        | y :: r, hys, N2 =>
          clear hys
          refine wpAny_truthy_list (News.isList N2 List.mem_cons_self) ?zfit ?_; case zfit => (have h3 : (y :: r).length ≤ 3 := hlen); simp only [List.size_toArray]; omega
          k_steps
          · exact absurd (by assumption : (y :: r).toArray.isEmpty = true) (by simp)
          · rename Obj.data _ = Data.cell _ => hd9
            exact cv_end F2 N2 (List.mem_cons_of_mem _ (List.mem_cons_of_mem _ List.mem_cons_self)) (List.mem_cons_of_mem _ (List.mem_cons_of_mem _ (List.mem_cons_of_mem _ List.mem_cons_self)))
              (fun p hp => List.mem_cons_of_mem _ (List.mem_cons_of_mem _ (List.mem_cons_of_mem _ (List.mem_cons_of_mem _ (List.mem_append_right _ hp))))) hd9 hne1 hne2 (List.forall_mem_cons.mpr ⟨rfl, List.forall_mem_cons.mpr ⟨rfl, List.forall_mem_nil _⟩⟩)
    · rename Fr _ _ _ _ => lF
      rename News _ _ _ _ => lN
      rename Obj.data _ = Data.cell _ => hd9
      exact cv_end lF lN List.mem_cons_self (List.mem_cons_of_mem _ List.mem_cons_self) (fun p hp => List.mem_cons_of_mem _ (List.mem_cons_of_mem _ (List.mem_append_right _ hp))) hd9 hne1 hne2 (List.forall_mem_cons.mpr ⟨rfl, List.forall_mem_cons.mpr ⟨rfl, List.forall_mem_nil _⟩⟩)
    · rename Fr _ _ _ _ => lF
      rename News _ _ _ _ => lN
      exact cv_end lF lN (List.mem_cons_of_mem _ List.mem_cons_self) (List.mem_cons_of_mem _ (List.mem_cons_of_mem _ List.mem_cons_self)) (fun p hp => List.mem_cons_of_mem _ (List.mem_cons_of_mem _ (List.mem_cons_of_mem _ hp))) hc hne1 hne2 (List.forall_mem_cons.mpr ⟨rfl, List.forall_mem_cons.mpr ⟨rfl, List.forall_mem_nil _⟩⟩)
  case zdn =>
    rintro m1 nx h tk ⟨oc, v, enx, hc, hm⟩ F1 N1
    subst enx
    rw [map_bm hm] at F1
    dsimp only [bm] at F1
    clear hm lF lN hr hc0
    k_steps
    rename Fr h₀ _ _ _ => lF
    rename News h₀ _ _ _ => lN
    exact cv_ret (Q := Q) (s := s) hret lF lN (fun p hp => (List.mem_append.mp hp).elim (fun q => List.mem_append_left _ q) fun q => List.mem_append_right _ (List.mem_cons_of_mem _ q)) whl9 whp9 (.inr ⟨rfl, rfl, rfl, rfl⟩)

end
section
/-- what the law's walk wants of a curve -/
def CrvOK (c : Nat × Nat × Nat × Nat × Nat × Nat) : Prop :=
  ∃ (_ : NeZero c.1) (_ : NeZero c.2.1), Crv c.1 c.2.1 (c.2.2.1 : Int) (c.2.2.2.1 : Int) (c.2.2.2.2.1 : Int) (c.2.2.2.2.2 : Int) ∧ c.1 % 4 = 3 ∧ c.2.1 % 2 = 1
theorem crvOK_of {p N a b gx gy : Nat} (k : Nat) (hp : p ≠ 0) (hN : N ≠ 0) (h : crvC p N a b gx gy = true) (hr : rootC p a b k = true) (h4 : p % 4 = 3) (h2 : N % 2 = 1) : CrvOK (p, N, a, b, gx, gy) :=
  ⟨⟨hp⟩, ⟨hN⟩, @crv_of p N a b gx gy k ⟨hp⟩ ⟨hN⟩ h hr, h4, h2⟩
/-- where the bound on the order does not serve: the points are counted -/
def crvC2 (p N a b gx gy : Nat) : Bool :=
  prmC p 8 && prmC N 8 && decide ((gx * gx * gx + a * gx + b) % p = gy * gy % p) && decide (gx < p) && decide (gy < p) && decide (p ≠ 2)
theorem crv_of2 {p N a b gx gy k : Nat} [NeZero p] [NeZero N] (h : crvC2 p N a b gx gy = true) (hr : rootC p a b k = true) (hl : (ptsOf (fc p (a : Int)) (fc p (b : Int))).length = N) : Crv p N (a : Int) (b : Int) (gx : Int) (gy : Int) := by
  unfold crvC2 at h
  simp only [Bool.and_eq_true, decide_eq_true_eq] at h
  obtain ⟨⟨⟨⟨⟨h1, h2⟩, h5⟩, h6⟩, h7⟩, h9⟩ := h
  have hp := prm_of h1
  have C := cv_of hp h9 (root_of hr)
  have G : On (fc p (a : Int)) (fc p (b : Int)) (some (fc p (gx : Int), fc p (gy : Int))) := by
    have e : fc p ((gx : Int) * gx * gx + (a : Int) * gx + (b : Int)) = fc p ((gy : Int) * gy) := by
      rw [fc_eq]
      have q1 : (((gx * gx * gx + a * gx + b : Nat) % p : Nat) : Int) = ((gy * gy % p : Nat) : Int) := by rw [h5]
      rw [Int.natCast_emod, Int.natCast_emod] at q1
      simpa using q1
    rw [fc_add, fc_add, fc_mul, fc_mul, fc_mul, fc_mul] at e
    exact e.symm
  exact ⟨hp, prm_of h2, C, hl ▸ tor_pts C, G, ⟨by omega, by omega⟩, ⟨by omega, by omega⟩⟩
theorem crvOK_of2 {p N a b gx gy : Nat} (k : Nat) (hp : p ≠ 0) (hN : N ≠ 0) (h : crvC2 p N a b gx gy = true) (hr : rootC p a b k = true) (hl : (ptsOf (@fc p ⟨hp⟩ (a : Int)) (@fc p ⟨hp⟩ (b : Int))).length = N) (h4 : p % 4 = 3) (h2 : N % 2 = 1) : CrvOK (p, N, a, b, gx, gy) :=
  ⟨⟨hp⟩, ⟨hN⟩, @crv_of2 p N a b gx gy k ⟨hp⟩ ⟨hN⟩ h hr hl, h4, h2⟩

/-- what the walk of the first law knows of its curve -/
structure CrvI (P N A B Gx Gy : Int) : Prop where
  bnd : (2 < P ∧ Sm P ∧ Sm A ∧ Sm B) ∧ (Sm Gx ∧ Sm Gy) ∧ (2 < N ∧ N < 2 ^ 20)
  crv : ∃ (p N' : Nat) (_ : NeZero p) (_ : NeZero N'), P = (p : Int) ∧ N = (N' : Int) ∧ Crv p N' A B Gx Gy ∧ p % 4 = 3 ∧ N' % 2 = 1
theorem crvI_of {c : Nat × Nat × Nat × Nat × Nat × Nat} (h : CrvOK c) (hb : 2 < c.1 ∧ c.1 < 2 ^ 20 ∧ c.2.2.1 < 2 ^ 20 ∧ c.2.2.2.1 < 2 ^ 20 ∧ c.2.2.2.2.1 < 2 ^ 20 ∧ c.2.2.2.2.2 < 2 ^ 20 ∧ 2 < c.2.1 ∧ c.2.1 < 2 ^ 20) :
    CrvI (c.1 : Int) (c.2.1 : Int) (c.2.2.1 : Int) (c.2.2.2.1 : Int) (c.2.2.2.2.1 : Int) (c.2.2.2.2.2 : Int) := by
  obtain ⟨i1, i2, K, h4, h2⟩ := h
  refine ⟨?_, ⟨c.1, c.2.1, i1, i2, rfl, rfl, K, h4, h2⟩⟩
  obtain ⟨b1, b2, b3, b4, b5, b6, b7, b8⟩ := hb
  refine ⟨⟨?_, ⟨?_, ?_⟩, ⟨?_, ?_⟩, ?_, ?_⟩, ⟨⟨?_, ?_⟩, ?_, ?_⟩, ?_, ?_⟩ <;> omega
section
variable {P N A B Gx Gy : Int}
theorem kmod {k N : Int} (h0 : 0 < k) (h1 : k < N) : k % N ≠ 0 := by
  rw [Int.emod_eq_of_lt (by omega) h1]; omega
theorem ltI_G (K : CrvI P N A B Gx Gy) (k : Int) : flatI (ltI P A (k % N).toNat none (some (Gx, Gy))) = pmul P N A Gx Gy k := by
  obtain ⟨p, N', i1, i2, rfl, rfl, K, _⟩ := K.crv
  have h := ltI_zsm K K.rx K.ry K.G k
  rw [← flat_toF h.1, h.2, pmul_spec K.hp K.C K.ry K.G k]
theorem ltI_some (K : CrvI P N A B Gx Gy) {k : Int} (hk : k % N ≠ 0) : ltI P A (k % N).toNat none (some (Gx, Gy)) = some (pmul P N A Gx Gy k) := by
  rw [← ltI_G K]
  obtain ⟨p, N', i1, i2, rfl, rfl, K, _⟩ := K.crv
  have h := ltI_zsm K K.rx K.ry K.G k
  have hne := zsm_ne K hk
  match hS : ltI (p : Int) A (k % (N' : Int)).toNat none (some (Gx, Gy)) with
  | none => rw [hS] at h; exact absurd h.2.symm hne
  | some T => rfl
theorem pmul_red (K : CrvI P N A B Gx Gy) {k x y : Int} (hk : k % N ≠ 0) (h : (x, y) = pmul P N A Gx Gy k) : 0 ≤ x ∧ x < P := by
  have e := ltI_some K hk
  obtain ⟨p, N', i1, i2, rfl, rfl, K, _⟩ := K.crv
  have h1 := (ltI_zsm K K.rx K.ry K.G k).1
  rw [e, ← h] at h1
  exact h1.1
theorem inv_pow (K : CrvI P N A B Gx Gy) {k i : Int} (hk : k % N ≠ 0) (hi : k ^ (N - 2).toNat % N = i) {p N' : Nat} [NeZero p] [NeZero N'] (eN : N = (N' : Int)) (K' : Crv p N' A B Gx Gy) : fc N' i = fc N' (pinv k N') := by
  subst eN
  have hkN : fc N' k ≠ 0 := fun e => hk (fcN_zero_iff.mp e)
  rw [fc_pinv K' hkN, ← hi, ← fc_inv K'.hN, fc_mod, fc_mod, fc_pow, fc_pow, fc_mod]
/-- the signature is the law's -/
theorem sign_law (K : CrvI P N A B Gx Gy) {z d k x y i s0 : Int} (hk : k % N ≠ 0) (hR : (x, y) = pmul P N A Gx Gy k) (hi : k ^ (N - 2).toNat % N = i) (hs : i * (z + x * d) % N = s0) :
    psign P N A Gx Gy z d k = if 2 * s0 ≥ N then (55 - (27 + y % 2), x, N - s0) else (27 + y % 2, x, s0) := by
  obtain ⟨p, N', i1, i2, e1, e2, K', h4, h2⟩ := K.crv
  have h9 := inv_pow K hk hi e2 K'
  subst e1 e2
  exact psign_eq K' h2 hR.symm h9 hs
/-- recovery of the signature, with either sign of s -/
theorem rec_law (K : CrvI P N A B Gx Gy) {z d k x y i s0 v s : Int} (hk : k % N ≠ 0) (hR : (x, y) = pmul P N A Gx Gy k) (hi : k ^ (N - 2).toNat % N = i) (hs : i * (z + x * d) % N = s0)
    (hvs : (v = 27 + y % 2 ∧ s = s0) ∨ (v = 55 - (27 + y % 2) ∧ s = N - s0)) :
    precover P N A B Gx Gy z v x s = if x % N = 0 ∨ s % N = 0 then none else some (pmul P N A Gx Gy d) := by
  obtain ⟨p, N', i1, i2, e1, e2, K', h4, h2⟩ := K.crv
  have h9 := inv_pow K hk hi e2 K'
  subst e1 e2
  rw [pmul_spec K'.hp K'.C K'.ry K'.G d]
  exact recover_sign K' h4 hk hR.symm h9 hs hvs
theorem rec_own (K : CrvI P N A B Gx Gy) {z v r s : Int} (h0 : 0 ≤ r) (h1 : r < P) : precover P N A B Gx Gy z v r s = lrec P N A B Gx Gy z v r s := by
  obtain ⟨p, N', i1, i2, e1, e2, K', h4, h2⟩ := K.crv
  subst e1 e2
  exact recover_eq K' ⟨h0, h1⟩
end

/-! the points counted by squares -/
def nSq (p : Nat) (c : Nat) : Nat := ((List.finRange p).filter fun y : Fin p => decide (y.val * y.val % p = c)).length
def nRoot (P : Int) (H : Nat) (sq : Int) : Nat := (if sq = 0 then 1 else 0) + (match rootOf P H sq with | none => 0 | some _ => 2)
theorem ptsAt_cnt {P A B : Int} {H : Nat} {x : Int} : (ptsAt P A B H x).length = nRoot P H ((x ^ 3 + A * x + B) % P) := by
  unfold ptsAt nRoot
  generalize rootOf P H ((x ^ 3 + A * x + B) % P) = r
  cases r <;> by_cases c : (x ^ 3 + A * x + B) % P = 0 <;> simp [c]
theorem ptsTo_cnt {P A B : Int} {H : Nat} : ∀ n : Nat, (ptsTo P A B H n).length = 1 + ((List.range n).map fun x : Nat => nRoot P H (((x : Int) ^ 3 + A * (x : Int) + B) % P)).sum
  | 0 => rfl
  | n + 1 => by
    show (ptsTo P A B H n ++ ptsAt P A B H (n : Int)).length = _
    rw [List.length_append, ptsTo_cnt n, ptsAt_cnt, List.range_succ, List.map_append, List.sum_append]
    simp
    omega
theorem fin_ranges {α : Type} (p : Nat) (f : Nat → α) : (List.finRange p).map (fun x => f x.val) = (List.range p).map f := by
  apply List.ext_getElem
  · simp
  · intro i h1 h2
    simp
theorem fc_self {p : Nat} [NeZero p] (x : Fin p) : fc p (x.val : Int) = x := by
  apply Fin.ext
  have h := fc_val (p := p) (x.val : Int)
  have h2 : ((x.val : Int)) % (p : Int) = (x.val : Int) := Int.emod_eq_of_lt (by omega) (by have := x.isLt; omega)
  rw [h2] at h
  omega
theorem ys_cnt {p : Nat} [NeZero p] {A B : Int} (x : Fin p) : (ysOf (fc p A) (fc p B) x).length = nSq p ((((x.val : Int) ^ 3 + A * (x.val : Int) + B) % (p : Int)).toNat) := by
  unfold ysOf nSq
  congr 1
  apply List.filter_congr
  intro y _
  have e : x * x * x + fc p A * x + fc p B = fc p ((x.val : Int) ^ 3 + A * (x.val : Int) + B) := by
    rw [fc_add, fc_add, fc_mul, show (x.val : Int) ^ 3 = (x.val : Int) * x.val * x.val by rw [show (3 : Nat) = 2 + 1 by rfl, Int.pow_succ, show (2 : Nat) = 1 + 1 by rfl, Int.pow_succ, Int.pow_one], fc_mul, fc_mul, fc_self]
  rw [e]
  have hv := fc_val (p := p) ((x.val : Int) ^ 3 + A * (x.val : Int) + B)
  have h1 : (y * y = fc p ((x.val : Int) ^ 3 + A * (x.val : Int) + B)) ↔ (y.val * y.val % p = (((x.val : Int) ^ 3 + A * (x.val : Int) + B) % (p : Int)).toNat) := by
    rw [Fin.ext_iff, Fin.val_mul, ← hv]
    simp
  exact decide_eq_decide.mpr h1
theorem pts_cnt {p : Nat} [NeZero p] {A B : Int} {H : Nat} (hq : ∀ c, c < p → nSq p c = nRoot (p : Int) H (c : Int)) : (ptsOf (fc p A) (fc p B)).length = (ptsTo (p : Int) A B H p).length := by
  rw [ptsTo_cnt]
  unfold ptsOf
  rw [List.length_cons, List.length_flatMap, Nat.add_comm]
  congr 1
  rw [← fin_ranges p (fun x : Nat => nRoot (p : Int) H (((x : Int) ^ 3 + A * (x : Int) + B) % (p : Int)))]
  congr 1
  apply List.map_congr_left
  intro x _
  rw [List.length_map, ys_cnt]
  have h0 : 0 ≤ ((x.val : Int) ^ 3 + A * (x.val : Int) + B) % (p : Int) := Int.emod_nonneg _ (by have := npos (p := p); omega)
  have h1 : ((x.val : Int) ^ 3 + A * (x.val : Int) + B) % (p : Int) < (p : Int) := Int.emod_lt_of_pos _ (npos (p := p))
  rw [hq _ (by omega)]
  congr 1
  omega
theorem nsq_7 : ∀ c, c < 7 → nSq 7 c = nRoot 7 3 (c : Int) := by decide +kernel
theorem nsq_11 : ∀ c, c < 11 → nSq 11 c = nRoot 11 5 (c : Int) := by decide +kernel
theorem nsq_19 : ∀ c, c < 19 → nSq 19 c = nRoot 19 9 (c : Int) := by decide +kernel
theorem nsq_23 : ∀ c, c < 23 → nSq 23 c = nRoot 23 11 (c : Int) := by decide +kernel
theorem nsq_31 : ∀ c, c < 31 → nSq 31 c = nRoot 31 15 (c : Int) := by decide +kernel

/-! which curves are taken: by going through all -/
/-- a table of two bits a place -/
def dig (T c : Nat) : Nat := Nat.mod (Nat.shiftRight T (Nat.mul 2 c)) 4
noncomputable def cntF (p T a b n : Nat) : Nat := Nat.rec 1 (fun x acc => Nat.add acc (dig T (Nat.mod (Nat.add (Nat.mul x (Nat.add (Nat.mul x x) a)) b) p))) n
theorem cntF_eq {p T H : Nat} (hp : 0 < p) (ht : ∀ c, c < p → dig T c = nRoot (p : Int) H (c : Int)) (a b : Nat) : ∀ n : Nat, (ptsTo (p : Int) (a : Int) (b : Int) H n).length = cntF p T a b n
  | 0 => rfl
  | n + 1 => by
    show (ptsTo (p : Int) (a : Int) (b : Int) H n ++ ptsAt (p : Int) (a : Int) (b : Int) H (n : Int)).length = cntF p T a b n + dig T ((n * (n * n + a) + b) % p)
    rw [List.length_append, cntF_eq hp ht a b n, ptsAt_cnt, ht _ (Nat.mod_lt _ hp)]
    have e : (((n * (n * n + a) + b) % p : Nat) : Int) = ((n : Int) ^ 3 + (a : Int) * (n : Int) + (b : Int)) % (p : Int) := by
      rw [Int.natCast_emod, show (n : Int) ^ 3 = (n : Int) * n * n by rw [show (3 : Nat) = 2 + 1 by rfl, Int.pow_succ, show (2 : Nat) = 1 + 1 by rfl, Int.pow_succ, Int.pow_one]]
      simp [Int.mul_add, Int.mul_comm]
    rw [e]
def accT (p a b N : Nat) : Bool := (4 * a ^ 3 + 27 * b ^ 2) % p != 0 && Nat.blt 2 N && !(N % 2 == 0 && N != 2) && !(N % 3 == 0 && N != 3) && !(N % 5 == 0 && N != 5)
def prmB (N : Nat) : Bool := Nat.beq (Nat.mod (Nat.shiftRight 11135248640168 N) 2) 1
theorem prmB_ok : ∀ N, N < 64 → prmB N = true → prmC N 8 = true := by decide +kernel
def okN (p a b k N : Nat) : Bool := !(accT p a b N) || (Nat.ble N 63 && prmB N && rootC p a b k && N % 2 == 1)
noncomputable def allOk (p k T : Nat) : Bool := (List.range p).all fun a => (List.range p).all fun b => okN p a b k (cntF p T a b p)
def tab7 : Nat := 553
theorem tabOk_7 : ∀ c, c < 7 → dig tab7 c = nRoot 7 3 (c : Int) := by decide +kernel
theorem allOk_7 : allOk 7 3 tab7 = true := by decide +kernel
def tab11 : Nat := 526985
theorem tabOk_11 : ∀ c, c < 11 → dig tab11 c = nRoot 11 5 (c : Int) := by decide +kernel
theorem allOk_11 : allOk 11 4 tab11 = true := by decide +kernel
def tab19 : Nat := 42958629385
theorem tabOk_19 : ∀ c, c < 19 → dig tab19 c = nRoot 19 9 (c : Int) := by decide +kernel
theorem allOk_19 : allOk 19 5 tab19 = true := by decide +kernel
def tab23 : Nat := 146197324457
theorem tabOk_23 : ∀ c, c < 23 → dig tab23 c = nRoot 23 11 (c : Int) := by decide +kernel
theorem allOk_23 : allOk 23 5 tab23 = true := by decide +kernel
def tab31 : Nat := 146369883237157417
theorem tabOk_31 : ∀ c, c < 31 → dig tab31 c = nRoot 31 15 (c : Int) := by decide +kernel
theorem allOk_31 : allOk 31 5 tab31 = true := by decide +kernel

/-! a point of the list is a base -/
def OnI (P A B : Int) (T : Int × Int) : Prop := 0 ≤ T.1 ∧ T.1 < P ∧ 0 ≤ T.2 ∧ T.2 < P ∧ T.2 * T.2 % P = (T.1 ^ 3 + A * T.1 + B) % P
theorem rootOf_sq {P : Int} : ∀ {H : Nat} {sq h : Int}, rootOf P H sq = some h → h * h % P = sq
  | 0, _, _, e => nomatch e
  | H + 1, sq, h, e => by
    unfold rootOf at e
    by_cases c : (1 + (H : Int)) * (1 + (H : Int)) % P = sq
    · rw [if_pos c] at e
      rw [← Option.some.inj e]; exact c
    · rw [if_neg c] at e
      exact rootOf_sq e
theorem ptsAt_on {P A B : Int} {H : Nat} (hH : P = 2 * (H : Int) + 1) {x : Int} (h0 : 0 ≤ x) (h1 : x < P) {T : Option (Int × Int)} (hT : T ∈ ptsAt P A B H x) : ∃ U, T = some U ∧ OnI P A B U := by
  unfold ptsAt at hT
  rcases List.mem_append.mp hT with h | h
  · by_cases c : (x ^ 3 + A * x + B) % P = 0
    · rw [if_pos c] at h
      refine ⟨(x, 0), List.mem_singleton.mp h, h0, h1, Int.le_refl 0, by show (0 : Int) < P; omega, ?_⟩
      show (0 : Int) * 0 % P = _
      rw [c]; simp
    · rw [if_neg c] at h; nomatch h
  · match e : rootOf P H ((x ^ 3 + A * x + B) % P), h with
    | some r, h =>
      have hb := rootOf_bnd e
      have hs := rootOf_sq e
      rcases List.mem_cons.mp h with h | h
      · exact ⟨(x, r), h, h0, h1, by show 0 ≤ r; omega, by show r < P; omega, hs⟩
      · refine ⟨(x, P - r), List.mem_singleton.mp h, h0, h1, by show 0 ≤ P - r; omega, by show P - r < P; omega, ?_⟩
        show (P - r) * (P - r) % P = _
        have e1 : (P - r) * (P - r) = r * r + P * (P - 2 * r) := by
          rw [Int.sub_mul, Int.mul_sub, Int.mul_sub, Int.mul_sub, Int.mul_comm r P, Int.mul_left_comm P 2 r]
          omega
        rw [e1, Int.add_mul_emod_self_left]
        exact hs
theorem ptsTo_shape {P A B : Int} {H : Nat} (hH : P = 2 * (H : Int) + 1) : ∀ n : Nat, (n : Int) ≤ P → ∃ rest, ptsTo P A B H n = none :: rest ∧ ∀ T ∈ rest, ∃ U, T = some U ∧ OnI P A B U
  | 0, _ => ⟨[], rfl, fun _ h => nomatch h⟩
  | n + 1, hn => by
    obtain ⟨rest, e, h⟩ := ptsTo_shape (A := A) (B := B) hH n (by omega)
    refine ⟨rest ++ ptsAt P A B H (n : Int), by show ptsTo P A B H n ++ _ = _; rw [e]; rfl, fun T hT => ?_⟩
    rcases List.mem_append.mp hT with hT | hT
    · exact h T hT
    · exact ptsAt_on hH (by omega) (by omega) hT
theorem ptsTo_at {P A B : Int} {H n i : Nat} {T : Option (Int × Int)} (hH : P = 2 * (H : Int) + 1) (hn : (n : Int) ≤ P) (hi : 1 ≤ i) (e : (ptsTo P A B H n)[i]? = some T) : ∃ U, T = some U ∧ OnI P A B U := by
  obtain ⟨rest, e1, h⟩ := ptsTo_shape (A := A) (B := B) hH n hn
  rw [e1] at e
  obtain ⟨j, rfl⟩ : ∃ j, i = j + 1 := ⟨i - 1, by omega⟩
  exact h T (List.mem_of_getElem? (by simpa using e))
theorem crv2 {p N a b k : Nat} [i1 : NeZero p] {U : Int × Int} (hp : prmC p 8 = true) (h4 : p % 4 = 3) (hpb : 2 < p ∧ p < 64) (hN : prmC N 8 = true) (hN2 : N % 2 = 1) (hN3 : 2 < N ∧ N < 256) (hr : rootC p a b k = true) (ha : a < p) (hb : b < p)
    (hl : (ptsOf (fc p (a : Int)) (fc p (b : Int))).length = N) (hU : OnI (p : Int) (a : Int) (b : Int) U) : CrvI (p : Int) (N : Int) (a : Int) (b : Int) U.1 U.2 := by
  have i2 : NeZero N := ⟨by omega⟩
  obtain ⟨u0, u1, v0, v1, e⟩ := hU
  obtain ⟨gx, hgx⟩ := Int.eq_ofNat_of_zero_le u0
  obtain ⟨gy, hgy⟩ := Int.eq_ofNat_of_zero_le v0
  rw [hgx] at u1 e
  rw [hgy] at v1 e
  have hc : crvC2 p N a b gx gy = true := by
    unfold crvC2
    simp only [Bool.and_eq_true, decide_eq_true_eq]
    refine ⟨⟨⟨⟨⟨hp, hN⟩, ?_⟩, by omega⟩, by omega⟩, by omega⟩
    have e2 : (((gx * gx * gx + a * gx + b) % p : Nat) : Int) = ((gy * gy % p : Nat) : Int) := by
      rw [Int.natCast_emod, Int.natCast_emod, Int.natCast_mul gy gy, e]
      rw [show ((gx : Nat) : Int) ^ 3 = (gx : Int) * gx * gx by rw [show (3 : Nat) = 2 + 1 by rfl, Int.pow_succ, show (2 : Nat) = 1 + 1 by rfl, Int.pow_succ, Int.pow_one]]
      simp
    exact_mod_cast e2
  have K := crv_of2 hc hr hl
  rw [hgx, hgy]
  exact ⟨⟨⟨by omega, ⟨by omega, by omega⟩, ⟨by omega, by omega⟩, ⟨by omega, by omega⟩⟩, ⟨⟨by omega, by omega⟩, ⟨by omega, by omega⟩⟩, by omega, by omega⟩, p, N, i1, i2, rfl, rfl, K, h4, hN2⟩

/-! what is known of each of the five primes -/
structure PF (p H k tab : Nat) : Prop where
  hp : prmC p 8 = true
  h4 : p % 4 = 3
  hH : p = 2 * H + 1
  hb : 2 < p ∧ p < 64
  ht : ∀ c, c < p → dig tab c = nRoot (p : Int) H (c : Int)
  hq : ∀ c, c < p → nSq p c = nRoot (p : Int) H (c : Int)
  ha : allOk p k tab = true
theorem pf_7 : PF 7 3 3 tab7 := ⟨by decide +kernel, rfl, rfl, by decide, tabOk_7, nsq_7, allOk_7⟩
theorem pf_11 : PF 11 5 4 tab11 := ⟨by decide +kernel, rfl, rfl, by decide, tabOk_11, nsq_11, allOk_11⟩
theorem pf_19 : PF 19 9 5 tab19 := ⟨by decide +kernel, rfl, rfl, by decide, tabOk_19, nsq_19, allOk_19⟩
theorem pf_23 : PF 23 11 5 tab23 := ⟨by decide +kernel, rfl, rfl, by decide, tabOk_23, nsq_23, allOk_23⟩
theorem pf_31 : PF 31 15 5 tab31 := ⟨by decide +kernel, rfl, rfl, by decide, tabOk_31, nsq_31, allOk_31⟩
theorem fold3 {N : Int} (h : ([2, 3, 5] : List Int).foldl (fun l k => if N % k = 0 ∧ N ≠ k then l ++ [k] else l) [] = []) : ¬ (N % 2 = 0 ∧ N ≠ 2) ∧ ¬ (N % 3 = 0 ∧ N ≠ 3) ∧ ¬ (N % 5 = 0 ∧ N ≠ 5) := by
  simp only [List.foldl] at h
  by_cases c2 : N % 2 = 0 ∧ N ≠ 2
  · rw [if_pos c2] at h
    exfalso
    by_cases c3 : N % 3 = 0 ∧ N ≠ 3 <;> by_cases c5 : N % 5 = 0 ∧ N ≠ 5 <;> simp [c3, c5] at h
  · rw [if_neg c2] at h
    by_cases c3 : N % 3 = 0 ∧ N ≠ 3
    · rw [if_pos c3] at h
      exfalso
      by_cases c5 : N % 5 = 0 ∧ N ≠ 5 <;> simp [c5] at h
    · rw [if_neg c3] at h
      by_cases c5 : N % 5 = 0 ∧ N ≠ 5
      · rw [if_pos c5] at h
        exfalso
        simp at h
      · exact ⟨c2, c3, c5⟩
theorem good_711 : GoodCv 7 1 1 3 := by
  refine ⟨by decide, by decide, by decide, by decide +kernel, by decide +kernel⟩
theorem acc_of {p a b N : Nat} (hd : (4 * (a : Int) ^ 3 + 27 * (b : Int) ^ 2) % (p : Int) ≠ 0) (h2 : 2 < (N : Int)) (hf : ¬ ((N : Int) % 2 = 0 ∧ (N : Int) ≠ 2) ∧ ¬ ((N : Int) % 3 = 0 ∧ (N : Int) ≠ 3) ∧ ¬ ((N : Int) % 5 = 0 ∧ (N : Int) ≠ 5)) : accT p a b N = true := by
  have hd' : (4 * a ^ 3 + 27 * b ^ 2) % p ≠ 0 := fun q => hd (by
    have : (((4 * a ^ 3 + 27 * b ^ 2) % p : Nat) : Int) = 0 := by rw [q]; rfl
    rw [Int.natCast_emod] at this
    simpa using this)
  unfold accT
  have e2 : (N % 2 == 0 && N != 2) = false := by
    rw [Bool.and_eq_false_iff]; simp only [beq_eq_false_iff_ne, bne_eq_false_iff_eq]; omega
  have e3 : (N % 3 == 0 && N != 3) = false := by
    rw [Bool.and_eq_false_iff]; simp only [beq_eq_false_iff_ne, bne_eq_false_iff_eq]; omega
  have e5 : (N % 5 == 0 && N != 5) = false := by
    rw [Bool.and_eq_false_iff]; simp only [beq_eq_false_iff_ne, bne_eq_false_iff_eq]; omega
  have e1 : Nat.blt 2 N = true := Nat.ble_eq_true_of_le (by omega)
  rw [e2, e3, e5, e1, bne_iff_ne.mpr hd']
  rfl
/-- the base of a curve that _law_curve gives -/
theorem crv_good {p H k tab : Nat} (F : PF p H k tab) {A B : Int} (hg : GoodCv (p : Int) A B H) {i : Nat} {T : Option (Int × Int)} (hi : 1 ≤ i) (e : (ptsTo (p : Int) A B H p)[i]? = some T) :
    ∃ U, T = some U ∧ CrvI (p : Int) ((ptsTo (p : Int) A B H p).length : Int) A B U.1 U.2 := by
  obtain ⟨hp, h4, hH, hb, ht, hq, ha⟩ := F
  obtain ⟨⟨a0, a1⟩, ⟨b0, b1⟩, hd, h2, hf⟩ := hg
  rw [Int.toNat_natCast] at h2 hf
  obtain ⟨a, rfl⟩ := Int.eq_ofNat_of_zero_le a0
  obtain ⟨b, rfl⟩ := Int.eq_ofNat_of_zero_le b0
  have i1 : NeZero p := ⟨by omega⟩
  obtain ⟨U, hU, hon⟩ := ptsTo_at (by omega) (Int.le_refl _) hi e
  have hl := pts_cnt (A := (a : Int)) (B := (b : Int)) hq
  have hc := cntF_eq (by omega) ht a b p
  have hacc := acc_of hd h2 (fold3 hf)
  have h3 := List.all_eq_true.mp (List.all_eq_true.mp ha a (List.mem_range.mpr (by omega))) b (List.mem_range.mpr (by omega))
  rw [← hc] at h3
  unfold okN at h3
  rw [hacc] at h3
  simp only [Bool.not_true, Bool.false_or, Bool.and_eq_true, beq_iff_eq] at h3
  obtain ⟨⟨⟨h4', h5'⟩, h6⟩, h7⟩ := h3
  have h5 := prmB_ok _ (Nat.lt_succ_of_le (Nat.le_of_ble_eq_true h4')) h5'
  have h8 := ptsTo_len (P := (p : Int)) (A := (a : Int)) (B := (b : Int)) (H := H) p
  exact ⟨U, hU, crv2 hp h4 hb h5 h7 ⟨by omega, by omega⟩ h6 (by omega) (by omega) hl hon⟩

theorem lm_zsm {p N : Nat} [NeZero p] [NeZero N] {A B Gx Gy : Int} (K : Crv p N A B Gx Gy) (k : Int) :
    RedP p (lmul2 (p : Int) A (some (Gx, Gy)) (k % (N : Int)).toNat) ∧ toF p (lmul2 (p : Int) A (some (Gx, Gy)) (k % (N : Int)).toNat) = zsm finv (fc p A) N k (some (fc p Gx, fc p Gy)) :=
  lmul2_ok K.hp K.C (G := some (Gx, Gy)) ⟨K.rx, K.ry⟩ K.G _
section
variable {P N A B Gx Gy : Int}
theorem lm_G (K : CrvI P N A B Gx Gy) (k : Int) : flatI (lmul2 P A (some (Gx, Gy)) (k % N).toNat) = pmul P N A Gx Gy k := by
  obtain ⟨p, N', i1, i2, rfl, rfl, K, _⟩ := K.crv
  have h := lm_zsm K k
  rw [← flat_toF h.1, h.2, pmul_spec K.hp K.C K.ry K.G k]
theorem lm_some (K : CrvI P N A B Gx Gy) {k : Int} (hk : k % N ≠ 0) : lmul2 P A (some (Gx, Gy)) (k % N).toNat = some (pmul P N A Gx Gy k) := by
  rw [← lm_G K]
  obtain ⟨p, N', i1, i2, rfl, rfl, K, _⟩ := K.crv
  have h := lm_zsm K k
  have hne := zsm_ne K hk
  match hS : lmul2 (p : Int) A (some (Gx, Gy)) (k % (N' : Int)).toNat with
  | none => rw [hS] at h; exact absurd h.2.symm hne
  | some T => rfl
theorem lm_ne (K : CrvI P N A B Gx Gy) {j : Nat} (h0 : 0 < j) (h1 : (j : Int) < N) : lmul2 P A (some (Gx, Gy)) j ≠ none := by
  have e : ((j : Int) % N).toNat = j := by rw [Int.emod_eq_of_lt (by omega) h1]; omega
  have h := lm_some K (k := (j : Int)) (by rw [Int.emod_eq_of_lt (by omega) h1]; omega)
  rw [e] at h
  rw [h]
  simp
theorem lm_N (K : CrvI P N A B Gx Gy) : lmul2 P A (some (Gx, Gy)) N.toNat = none := by
  obtain ⟨p, N', i1, i2, rfl, rfl, K, _⟩ := K.crv
  rw [Int.toNat_natCast]
  have h := lmul2_ok K.hp K.C (G := some (Gx, Gy)) ⟨K.rx, K.ry⟩ K.G N'
  have e : toF p (lmul2 (p : Int) A (some (Gx, Gy)) N') = none := by rw [h.2]; exact K.T _ K.G
  match hS : lmul2 (p : Int) A (some (Gx, Gy)) N' with
  | none => rfl
  | some T => rw [hS] at e; nomatch e
end

end
section
/-- the names that are wanted, the rest forgotten; tokens by number -/
def bmapT (u : Str → Option Value) (ts : Nat → Tok) : Nat → List (Str × (Tok → Value)) → Str → Option Value
  | _, [] => u
  | i, q :: r => fun x => if x = q.1 then some (q.2 (ts i)) else bmapT u ts (i + 1) r x
def BT (m : Str → Option Value) : List (Str × (Tok → Value)) → Prop
  | [] => True
  | q :: r => (∃ t, m q.1 = some (q.2 t)) ∧ BT m r
theorem bmapT_of {m : Str → Option Value} : ∀ {ps : List (Str × (Tok → Value))}, BT m ps → ∀ i : Nat, ∃ ts : Nat → Tok, m = bmapT m ts i ps
  | [], _, _ => ⟨fun _ => 0, rfl⟩
  | q :: r, ⟨⟨t, h⟩, hr⟩, i => by
    obtain ⟨ts, e⟩ := bmapT_of hr (i + 1)
    have step : ∀ (ps : List (Str × (Tok → Value))) (u : Str → Option Value) (j : Nat) (ts ts' : Nat → Tok), (∀ k, j ≤ k → ts k = ts' k) → bmapT u ts j ps = bmapT u ts' j ps := by
      intro ps
      induction ps with
      | nil => intro _ _ _ _ _; rfl
      | cons a l ih =>
        intro u j ts ts' h
        funext x
        show (if x = a.1 then some (a.2 (ts j)) else bmapT u ts (j + 1) l x) = if x = a.1 then some (a.2 (ts' j)) else bmapT u ts' (j + 1) l x
        rw [h j (Nat.le_refl _), ih u (j + 1) ts ts' fun k hk => h k (by omega)]
    refine ⟨fun k => if k = i then t else ts k, ?_⟩
    funext x
    show m x = if x = q.1 then some (q.2 (if i = i then t else ts i)) else bmapT m (fun k => if k = i then t else ts k) (i + 1) r x
    by_cases hx : x = q.1
    · subst hx
      simp [h]
    · rw [if_neg hx, step r m (i + 1) (fun k => if k = i then t else ts k) ts (fun k hk => if_neg (by omega))]
      exact congrFun e x
theorem fr_slim {h₀ h : Heap} {L : Addr} {m : Str → Option Value} (F : Fr h₀ L h m) (ps : List (Str × (Tok → Value))) (hp : BT m ps) : ∃ u ts, Fr h₀ L h (bmapT u ts 0 ps) := by
  obtain ⟨ts, e⟩ := bmapT_of hp 0
  exact ⟨m, ts, e ▸ F⟩
theorem led_nil {led : Led} : ∀ p ∈ ([] : Led), p ∈ led := fun _ h => nomatch h
theorem led_cons {led news : Led} {q : Addr × Obj} (h : q ∈ led) (hs : ∀ p ∈ news, p ∈ led) : ∀ p ∈ q :: news, p ∈ led := List.forall_mem_cons.mpr ⟨h, hs⟩
theorem named_ref {h₀ h : Heap} {L : Addr} {m : Str → Option Value} (_F : Fr h₀ L h m) (a : Str) {d : Addr} (_h : m a = some (.ref d)) {P : Prop} (k : ∀ y, y = d → P) : P := k _ rfl

def Kept (P : Prop) : Prop := P
theorem Kept.of {P : Prop} (h : P) : Kept P := h
theorem Kept.out {P : Prop} (h : Kept P) : P := h
structure Pass2 : Prop
section
variable {M : Model} {A : Around} {s : Shared} {h₀ : Heap} {L : Addr} {m : Str → Option Value} {news : Led}
/-- the law's body to its end: what comes back is True -/
theorem cutR {tree : Sem Flow} {Q : Flow → Shared → Prop} {E : Value → Shared → Prop} (_F : Fr h₀ L s.heap m) (_N : News h₀ L s.heap news)
    (h : ∀ (Q' : Flow → Shared → Prop) (E' : Value → Shared → Prop), (∀ b m' led h' tk', Fr h₀ L h' m' → News h₀ L h' led → b = true → Q' (.ret (.bool b)) { s with heap := h', toks := tk' }) → wpAny M A tree Q' E' s)
    (k : ∀ m' led h' tk', Fr h₀ L h' m' → News h₀ L h' led → Q (.ret (.bool true)) { s with heap := h', toks := tk' }) : wpAny M A tree Q E s :=
  h Q E fun b m' led h' tk' F N e => by subst e; exact k m' led h' tk' F N
/-- a test that comes out False -/
theorem cutF {tree : Sem Bool} {Q : Bool → Shared → Prop} {E : Value → Shared → Prop} (_F : Fr h₀ L s.heap m) (_N : News h₀ L s.heap news)
    (h : ∀ Q' : Bool → Shared → Prop, Pass → (∀ b h' tk', Fr h₀ L h' m → News h₀ L h' news → b = false → Q' b { s with heap := h', toks := tk' }) → wpAny M A tree Q' E s)
    (k : ∀ h' tk', Fr h₀ L h' m → News h₀ L h' news → Q false { s with heap := h', toks := tk' }) : wpAny M A tree Q E s := h Q ⟨⟩ fun b h' tk' F N e => by subst e; exact k h' tk' F N
/-- an expression's ways joined: its value is one of which φ holds -/
theorem cutV {tree : Sem Value} {Q E : Value → Shared → Prop} (_F : Fr h₀ L s.heap m) (_N : News h₀ L s.heap news) (φ : Value → Led → Prop)
    (h : ∀ Q' : Value → Shared → Prop, (∀ v nw h' tk', Fr h₀ L h' m → News h₀ L h' (nw ++ news) → φ v nw → Q' v { s with heap := h', toks := tk' }) → wpAny M A tree Q' E s)
    (k : ∀ v nw h' tk', Fr h₀ L h' m → News h₀ L h' (nw ++ news) → φ v nw → Q v { s with heap := h', toks := tk' }) : wpAny M A tree Q E s := h Q k
end

/-- what the law's first row lists -/
def g7 (ns : List Int) (k : Int) : Int := if k < (ns.length : Int) then (if ns.getD k.toNat 0 < 0 then - ns.getD k.toNat 0 else ns.getD k.toNat 0) else 4 * k + 3
theorem g7_pos {ns : List Int} {k : Int} (hk : 0 ≤ k) : 0 ≤ g7 ns k := by
  unfold g7
  split
  · split <;> omega
  · omega
section
variable {prog : Program} {w : World} {A : Around} {E Q : Value → Shared → Prop} {s : Shared} {h₀ : Heap} {L D : Addr} {news : Led} {ys : List Value} {ns : List Int} {i : Int} {u : Tok} {c : Nat} {value slice : PySem.Expr}
/-- one of the row's numbers -/
theorem item_g7 (N : News h₀ L s.heap news) (hm : (D, ({ cls := .type "list", data := .seq ys.toArray c } : Obj)) ∈ news) (hI : IntsAre ys ((rangeKs 0 7).map (g7 ns))) (h0 : 0 ≤ i) (h1 : i < 7) (h : ∀ y t, 0 ≤ y → Q (.int y t) s)
    (hs : subscripted slice false (.ref D) (.int i u) = operate [.ref D, .int i u] (getItem (.ref D) (.int i u))) (hg : ∀ r, letTemporaryGo value (.ref D) r = pure ()) :
    wpAny (model prog w) A (subscriptTail value slice (.ref D) (.int i u)) Q E s := by
  have hlen : ys.length = 7 := by rw [hI.length, List.length_map, rangeKs_length]
  have hi : i.toNat < ys.length := by omega
  obtain ⟨k, t, e, hk⟩ := IntsAre.at hI i.toNat ys[i.toNat] (List.getElem?_eq_getElem hi)
  refine item_list (News.isList N hm) h0 (by omega) (x := .int k t) ?_ (h k t ?_) hs hg
  · rw [List.getElem?_toArray, List.getElem?_eq_getElem hi, e]
  · obtain ⟨j, hj, rfl⟩ := List.mem_map.mp (List.mem_of_getElem? hk)
    exact g7_pos (mem_rangeKs hj).1
end

section
variable {M : Model} {A : Around} {E : Value → Shared → Prop} {s : Shared} {h₀ : Heap} {L : Addr} {m : Str → Option Value} {news : Led}
theorem cutE {tree : Sem Flow} {Q : Flow → Shared → Prop} (_F : Fr h₀ L s.heap m) (_N : News h₀ L s.heap news) (a b : Str) (φ : Int → Int → Prop)
    (h : ∀ Q' : Flow → Shared → Prop, Pass → (∀ x tx y ty h' tk', Fr h₀ L h' (fun z => if z = a then some (.int x tx) else if z = b then some (.int y ty) else m z) → News h₀ L h' news → φ x y → Q' .next { s with heap := h', toks := tk' }) → wpAny M A tree Q' E s)
    (k : ∀ x tx y ty h' tk', Fr h₀ L h' (fun z => if z = a then some (.int x tx) else if z = b then some (.int y ty) else m z) → News h₀ L h' news → φ x y → Q .next { s with heap := h', toks := tk' }) : wpAny M A tree Q E s := h Q ⟨⟩ k
end
theorem fr3 {h₀ h : Heap} {L : Addr} {m m1 : Str → Option Value} {a b : Str} {va vb : Value} (F : Fr h₀ L h m1) (ha : m1 a = some va) (hb : m1 b = some vb) (hr : ∀ z, z ≠ a → z ≠ b → m1 z = m z) :
    Fr h₀ L h (fun z => if z = a then some va else if z = b then some vb else m z) := by
  have e : m1 = (fun z => if z = a then some va else if z = b then some vb else m z) := by
    funext z
    by_cases h1 : z = a
    · subst h1; simp [ha]
    · by_cases h2 : z = b
      · subst h2; simp [h1, hb]
      · simp only [if_neg h1, if_neg h2]; exact hr z h1 h2
  rw [← e]; exact F
theorem fr2 {h₀ h : Heap} {L : Addr} {m : Str → Option Value} {a b : Str} {va vb : Value} (F : Fr h₀ L h m) (ha : m a = some va) (hb : m b = some vb) : Fr h₀ L h (fun z => if z = a then some va else if z = b then some vb else m z) := fr3 F ha hb fun _ _ _ => rfl

/-! the second law's end, plain -/
section
variable {P N A B Gx Gy : Int}
theorem pow_mod_N {k N i : Int} {e : Nat} (h : (k % N) ^ e % N = i) : k ^ e % N = i := by
  rw [← h]
  induction e generalizing i with
  | zero => rw [Int.pow_zero, Int.pow_zero]
  | succ e ih =>
    rw [Int.pow_succ, Int.pow_succ, Int.mul_emod, ih rfl, ← Int.mul_emod ((k % N) ^ e) k N, Int.mul_emod, Int.mul_emod ((k % N) ^ e) (k % N), Int.emod_emod_of_dvd k (Int.dvd_refl N)]
theorem CrvI.podd (K : CrvI P N A B Gx Gy) : P % 2 = 1 := by
  obtain ⟨p, N', i1, i2, rfl, rfl, K, h4, _⟩ := K.crv
  omega
theorem CrvI.nodd (K : CrvI P N A B Gx Gy) : N % 2 = 1 := by
  obtain ⟨p, N', i1, i2, rfl, rfl, K, _, h2⟩ := K.crv
  omega
theorem sg2_lo (K : CrvI P N A B Gx Gy) {z d k x y i s0 : Int} (hk : k % N ≠ 0) (hR : (x, y) = pmul P N A Gx Gy k) (hi : (k % N) ^ (N - 2).toNat % N = i) (hs : i * (z + x * d) % N = s0) (h : ¬ N < 2 * s0) :
    psign P N A Gx Gy z d k = (27 + y % 2, x, s0) := by
  have := K.nodd
  rw [sign_law K hk hR (pow_mod_N hi) hs, if_neg (by omega)]
theorem sg2_hi (K : CrvI P N A B Gx Gy) {z d k x y i s0 : Int} (hk : k % N ≠ 0) (hR : (x, y) = pmul P N A Gx Gy k) (hi : (k % N) ^ (N - 2).toNat % N = i) (hs : i * (z + x * d) % N = s0) (h : N < 2 * s0) :
    psign P N A Gx Gy z d k = (27 + (P - y) % 2, x, N - s0) := by
  have := K.podd
  rw [sign_law K hk hR (pow_mod_N hi) hs, if_pos (by omega)]
  have : 55 - (27 + y % 2) = 27 + (P - y) % 2 := by omega
  rw [this]
theorem rec2 (K : CrvI P N A B Gx Gy) {z d k x y i s0 y1 s : Int} (hk : k % N ≠ 0) (hR : (x, y) = pmul P N A Gx Gy k) (hi : (k % N) ^ (N - 2).toNat % N = i) (hs : i * (z + x * d) % N = s0)
    (hvs : (y1 = y ∧ s = s0) ∨ (y1 = P - y ∧ s = N - s0 ∧ N < 2 * s0)) :
    precover P N A B Gx Gy z (27 + y1 % 2) x s = if x % N = 0 ∨ s = 0 then none else some (pmul P N A Gx Gy d) := by
  have hN := K.bnd.2.2
  have hp2 := K.podd
  have h0 : 0 ≤ s0 := hs ▸ Int.emod_nonneg _ (by omega)
  have h1 : s0 < N := hs ▸ Int.emod_lt_of_pos _ (by omega)
  have hsN : s % N = s := Int.emod_eq_of_lt (by omega) (by omega)
  rw [rec_law K hk hR (pow_mod_N hi) hs (v := 27 + y1 % 2) (s := s) (by
    rcases hvs with ⟨e1, e2⟩ | ⟨e1, e2, _⟩
    · exact .inl ⟨by rw [e1], e2⟩
    · exact .inr ⟨by rw [e1]; omega, e2⟩), hsN]
theorem pmul_zero {k : Int} (hk : k % N = 0) : pmul P N A Gx Gy k = (0, 0) := by
  unfold pmul
  have e : jmul P N A (Gx, Gy, 1) k = (0, 0, 1) := by
    unfold jmul
    split
    · rfl
    · rw [hk, show (0 : Int).toNat = 0 from rfl, jmulN]; rfl
  rw [e]
  simp [fromJ]
theorem sign_zero {z d k v r s : Int} (hk : k % N = 0) (h : (v, r, s) = psign P N A Gx Gy z d k) : r = 0 := by
  have e : (psign P N A Gx Gy z d k).2.1 = 0 := by
    unfold psign
    rw [pmul_zero hk]
    split <;> rfl
  rw [← h] at e
  exact e
theorem rec_zero {z v r s : Int} (hr : r = 0) : precover P N A B Gx Gy z v r s = none :=
  rec_none2 (decide_eq_true (.inr (.inl (by rw [hr, Int.zero_emod]))))
end


/-! the law's own rows -/
def ResCvG (r : Value) (nw : Led) : Prop :=
  ∃ (p H k : Nat) (tab : Nat) (A B : Int) (D l : Addr) (its : Array Value) (c : Nat) (t1 t2 t3 : Tok) (d : Nat), r = .ref D ∧ (D, ({ cls := .type "tuple", data := .seq #[.int (p : Int) t1, .int A t2, .int B t3, .ref l] d } : Obj)) ∈ nw ∧ (l, W.listOf its c) ∈ nw ∧
    PtsAre nw its (ptsTo (p : Int) A B H p) ∧ PF p H k tab ∧ GoodCv (p : Int) A B H
theorem curveG_ok {w mean mg mb} {p H k tab : Nat} {n : Int} {tP tn : Tok} {news : Led} (F : PF p H k tab) : CallOk w mean mg mb 117 4 [.int (p : Int) tP, .int n tn] news ResCvG := by
  refine (curve_ok (P := (p : Int)) (H := H) (by have := F.hb; omega) (by have := F.hH; omega)).mono fun r nw h => ?_
  obtain ⟨P, A, B, H', D, l, its, c, t1, t2, t3, d, e, hm, hl, hp, hg⟩ := h
  rcases hg with ⟨e1, e2, hg⟩ | ⟨e1, e2, e3, e4⟩
  · subst e1 e2
    rw [Int.toNat_natCast] at hp
    exact ⟨p, H', k, tab, A, B, D, l, its, c, t1, t2, t3, d, e, hm, hl, hp, F, hg⟩
  · subst e1 e2 e3 e4
    exact ⟨7, 3, 3, tab7, 1, 1, D, l, its, c, t1, t2, t3, d, e, hm, hl, hp, pf_7, good_711⟩
theorem crvI_sm {P N A B x y : Int} (K : CrvI P N A B x y) : (2 < P ∧ Sm P ∧ Sm A ∧ Sm B) ∧ (Sm x ∧ Sm y) ∧ (2 < N ∧ N < 2 ^ 20) := K.bnd
theorem roundG_ok {w mean mg mb} {d : Addr} {x y P A B : Int} {t1 t2 tA tP : Tok} {c : Nat} {news : Led} {N : Nat} (K : CrvI P (N : Int) A B x y) (hN : N ≤ 255) (hp : (d, tup2 x y t1 t2 c) ∈ news) :
    CallOk w mean mg mb 131 4 [.ref d, .int A tA, .int P tP] news (ResR P A (some (x, y)) N news) := by
  have b := K.bnd
  refine round_ok hp ⟨⟨b.1.1, b.1.2.1, b.1.2.2.1⟩, b.2.1⟩ ⟨by have := b.2.2.1; omega, hN⟩ ?_ fun j h0 h1 => lm_ne K h0 (by omega)
  have h := lm_N K
  rwa [Int.toNat_natCast] at h
section
variable {prog : Program} {w : World} {A' : Around} {E Q : Value → Shared → Prop} {s : Shared} {h₀ : Heap} {L l d : Addr} {news led : Led} {its : Array Value} {c : Nat} {p H k N tab : Nat} {A B P x y z i kk : Int} {u t1 t2 t3 : Tok} {value slice : PySem.Expr}
theorem lenG (Nw : News h₀ L s.heap news) (hm : (l, W.listOf its c) ∈ news) (hp : PtsAre led its (ptsTo (p : Int) A B H p)) (F : PF p H k tab) (hg : GoodCv (p : Int) A B H)
    (h : ∀ (N : Nat) t k, N = (ptsTo (p : Int) A B H p).length → 2 < (N : Int) → (N : Int) ≤ 255 → Q (.int (N : Int) t) { s with toks := k }) : wpAny (model prog w) A' (call (.builtin "len") [.ref l]) Q E s := by
  have h1 := ptsTo_len (P := (p : Int)) (A := A) (B := B) (H := H) p
  have h2 := F.hb
  have h3 := hg.2.2.2.1
  rw [Int.toNat_natCast] at h3
  refine len_list (News.isList Nw hm) (by rw [hp.1]; omega) ?_
  rw [hp.1]
  exact h _ _ _ rfl h3 (by omega)
theorem item_pts (Nw : News h₀ L s.heap news) (hl : (l, W.listOf its c) ∈ news) (hp : PtsAre led its (ptsTo (p : Int) A B H p)) (hs : ∀ q ∈ led, q ∈ news) (F : PF p H k tab) (hg : GoodCv (p : Int) A B H)
    (eN : N = (ptsTo (p : Int) A B H p).length) (h1 : 1 ≤ i) (h2 : i < (N : Int)) (h3 : (N : Int) ≤ 255)
    (h : ∀ d x y t1 t2 c', (d, tup2 x y t1 t2 c') ∈ news → CrvI (p : Int) (N : Int) A B x y → Q (.ref d) s)
    (hs' : subscripted slice false (.ref l) (.int i u) = operate [.ref l, .int i u] (getItem (.ref l) (.int i u))) (hg' : ∀ r, letTemporaryGo value (.ref l) r = pure ()) :
    wpAny (model prog w) A' (subscriptTail value slice (.ref l) (.int i u)) Q E s := by
  have hi : i.toNat < (ptsTo (p : Int) A B H p).length := by omega
  have e := List.getElem?_eq_getElem hi
  obtain ⟨U, eU, K⟩ := crv_good F hg (i := i.toNat) (by omega) e
  obtain ⟨v, ev, hv⟩ := hp.2 _ _ e
  rw [eU] at hv
  obtain ⟨d, t1, t2, c', evd, hm, _⟩ := hv
  refine item_list (News.isList Nw hl) (by omega) (by omega) ev ?_ hs' hg'
  rw [evd]
  rw [← eN] at K
  exact h d U.1 U.2 t1 t2 c' (hs _ hm) K
/-- the multiples' list on the ledger -/
structure RowIs (led : Led) (its : Array Value) (P A x y : Int) (N : Nat) : Prop where
  sz : its.size = N
  at' : ∀ i, i < N → ∃ u, its[i]? = some u ∧ PtIs led u (lmul2 P A (some (x, y)) i)
theorem item_row (Nw : News h₀ L s.heap news) (hl : (l, W.listOf its c) ∈ news) (hr : RowIs led its P A x y N) (hs : ∀ q ∈ led, q ∈ news) (K : CrvI P (N : Int) A B x y) (h3 : (N : Int) ≤ 255) (e : kk % (N : Int) = i)
    (h : ∀ v S, PtIs news v S → flatI S = pmul P N A x y kk → Q v s)
    (hs' : subscripted slice false (.ref l) (.int i u) = operate [.ref l, .int i u] (getItem (.ref l) (.int i u))) (hg' : ∀ r, letTemporaryGo value (.ref l) r = pure ()) :
    wpAny (model prog w) A' (subscriptTail value slice (.ref l) (.int i u)) Q E s := by
  have hN := K.bnd.2.2.1
  have h0 : 0 ≤ i := e ▸ Int.emod_nonneg _ (by omega)
  have h1 : i < (N : Int) := e ▸ Int.emod_lt_of_pos _ (by omega)
  obtain ⟨v, ev, hv⟩ := hr.at' i.toNat (by omega)
  exact item_list (News.isList Nw hl) h0 (by omega) ev (h v _ (hv.up hs) (e ▸ lm_G K kk)) hs' hg'
theorem item_rowK (Nw : News h₀ L s.heap news) (hl : (l, W.listOf its c) ∈ news) (hr : RowIs led its P A x y N) (hs : ∀ q ∈ led, q ∈ news) (K : CrvI P (N : Int) A B x y) (h3 : (N : Int) ≤ 255) (e : kk % (N : Int) = i) (hi : i ≠ 0)
    (h : ∀ d X Y t1 t2 c', (d, tup2 X Y t1 t2 c') ∈ news → Sm X → Sm Y → (X, Y) = pmul P N A x y kk → Q (.ref d) s)
    (hs' : subscripted slice false (.ref l) (.int i u) = operate [.ref l, .int i u] (getItem (.ref l) (.int i u))) (hg' : ∀ r, letTemporaryGo value (.ref l) r = pure ()) :
    wpAny (model prog w) A' (subscriptTail value slice (.ref l) (.int i u)) Q E s := by
  have hN := K.bnd.2.2.1
  have h0 : 0 ≤ i := e ▸ Int.emod_nonneg _ (by omega)
  have h1 : i < (N : Int) := e ▸ Int.emod_lt_of_pos _ (by omega)
  obtain ⟨v, ev, hv⟩ := hr.at' i.toNat (by omega)
  have e2 := lm_some K (k := kk) (by rw [e]; exact hi)
  rw [e] at e2
  rw [e2] at hv
  obtain ⟨d, t1, t2, c', evd, hm, hx, hy⟩ := hv
  refine item_list (News.isList Nw hl) h0 (by omega) ev ?_ hs' hg'
  rw [evd]
  exact h d _ _ t1 t2 c' (hs _ hm) hx hy rfl
theorem item_primes {q1 q2 q3 q4 q5 : Tok} (Nw : News h₀ L s.heap news) (hl : (l, W.listOf #[.int 7 q1, .int 11 q2, .int 19 q3, .int 23 q4, .int 31 q5] c) ∈ news) (h0 : 0 ≤ i) (h1 : i < 5)
    (h : ∀ (p H k : Nat) tab t, PF p H k tab → Q (.int (p : Int) t) s)
    (hs' : subscripted slice false (.ref l) (.int i u) = operate [.ref l, .int i u] (getItem (.ref l) (.int i u))) :
    wpAny (model prog w) A' (subscriptTail value slice (.ref l) (.int i u)) Q E s := by
  have hc : i = 0 ∨ i = 1 ∨ i = 2 ∨ i = 3 ∨ i = 4 := by omega
  rcases hc with e | e | e | e | e <;> subst e
  · exact item_litK (vs := [.int 7 q1, .int 11 q2, .int 19 q3, .int 23 q4, .int 31 q5]) (News.isList Nw hl) h0 (by omega) (v := .int ((7 : Nat) : Int) q1) rfl (h 7 _ _ _ _ pf_7) hs'
  · exact item_litK (vs := [.int 7 q1, .int 11 q2, .int 19 q3, .int 23 q4, .int 31 q5]) (News.isList Nw hl) h0 (by omega) (v := .int ((11 : Nat) : Int) q2) rfl (h 11 _ _ _ _ pf_11) hs'
  · exact item_litK (vs := [.int 7 q1, .int 11 q2, .int 19 q3, .int 23 q4, .int 31 q5]) (News.isList Nw hl) h0 (by omega) (v := .int ((19 : Nat) : Int) q3) rfl (h 19 _ _ _ _ pf_19) hs'
  · exact item_litK (vs := [.int 7 q1, .int 11 q2, .int 19 q3, .int 23 q4, .int 31 q5]) (News.isList Nw hl) h0 (by omega) (v := .int ((23 : Nat) : Int) q4) rfl (h 23 _ _ _ _ pf_23) hs'
  · exact item_litK (vs := [.int 7 q1, .int 11 q2, .int 19 q3, .int 23 q4, .int 31 q5]) (News.isList Nw hl) h0 (by omega) (v := .int ((31 : Nat) : Int) q5) rfl (h 31 _ _ _ _ pf_31) hs'
theorem item2_0 (Nw : News h₀ L s.heap news) (hm : (d, tup2 x y t1 t2 c) ∈ news) (h : Q (.int x t1) s)
    (hs : subscripted slice false (.ref d) (.int 0 u) = operate [.ref d, .int 0 u] (getItem (.ref d) (.int 0 u))) (hg : ∀ r, letTemporaryGo value (.ref d) r = pure ()) :
    wpAny (model prog w) A' (subscriptTail value slice (.ref d) (.int 0 u)) Q E s := item_tuple (News.isTup Nw hm) (by decide) (by decide) (j := 0) rfl rfl h hs hg
theorem item2_1 (Nw : News h₀ L s.heap news) (hm : (d, tup2 x y t1 t2 c) ∈ news) (h : Q (.int y t2) s)
    (hs : subscripted slice false (.ref d) (.int 1 u) = operate [.ref d, .int 1 u] (getItem (.ref d) (.int 1 u))) (hg : ∀ r, letTemporaryGo value (.ref d) r = pure ()) :
    wpAny (model prog w) A' (subscriptTail value slice (.ref d) (.int 1 u)) Q E s := item_tuple (News.isTup Nw hm) (by decide) (by decide) (j := 1) rfl rfl h hs hg
theorem item3_1 (Nw : News h₀ L s.heap news) (hm : (d, tup3 x y z t1 t2 t3 c) ∈ news) (h : Q (.int y t2) s)
    (hs : subscripted slice false (.ref d) (.int 1 u) = operate [.ref d, .int 1 u] (getItem (.ref d) (.int 1 u))) (hg : ∀ r, letTemporaryGo value (.ref d) r = pure ()) :
    wpAny (model prog w) A' (subscriptTail value slice (.ref d) (.int 1 u)) Q E s := item_tuple (News.isTup Nw hm) (by decide) (by decide) (j := 1) rfl rfl h hs hg
end
theorem mem_N {h₀ h' : Heap} {L : Addr} {nw news : Led} {q : Addr × Obj} (_N : News h₀ L h' (nw ++ news)) (h : q ∈ nw) : q ∈ nw ++ news := List.mem_append_left _ h
theorem pts_N {h₀ h' : Heap} {L : Addr} {nw news : Led} {its : Array Value} {S : List (Option (Int × Int))} (_N : News h₀ L h' (nw ++ news)) (h : PtsAre nw its S) : PtsAre (nw ++ news) its S := h.up fun _ hp => List.mem_append_left _ hp
/-- what _law_primes gives -/
def ResPr (r : Value) (nw : Led) : Prop := ∃ l q1 q2 q3 q4 q5 c, r = .ref l ∧ nw = [(l, W.listOf #[.int 7 q1, .int 11 q2, .int 19 q3, .int 23 q4, .int 31 q5] c)]
theorem primes_ok {w mean mg mb} {news : Led} : CallOk w mean mg mb 105 1 [] news ResPr := by
  k_with_none
  w_top off
  k_with "binaryOp Mod int int" => (k_here; refine' modN (by first | decide | assumption | omega) ?_; k_whole; intro wmr wmt9 wmk9 wme wml wmu)
  k_with "binaryOp FloorDiv int int" => (k_here; refine' divN (by first | decide | assumption | omega) (by first | decide | omega) ?_; k_whole; intro wmr wmt9 wmk9 wme)
  k_with "binaryOp Mult int int" => (k_here; refine' mulT (by first | exact okL (by decide) (by decide) | exact okR (by decide) (by decide) | exact okLs (by assumption) (by assumption) | exact okRs (by assumption) (by assumption) | exact okLP (by assumption) (by assumption) (by assumption) | exact okRP (by assumption) (by assumption) (by assumption) | exact okL (by omega) (by omega) | exact okR (by omega) (by omega)) ?_; k_whole; intro wmt9 wmk9)
  k_with "binaryOp Pow int int" => (k_here; (first | refine' pow2 (by omega) (by omega) ?_ | refine' pow3 (by omega) (by omega) ?_ | refine' pow4 (by omega) (by omega) ?_); k_whole; intro wmt9 wmk9)
  k_with "binaryOp Add int int" => (k_here; refine' addT ?_; k_whole; intro wmt9 wmk9)
  k_with "binaryOp Sub int int" => (k_here; refine' subT ?_; k_whole; intro wmt9 wmk9)
  unfold CallOk
  k_fill
  intro dp un gd cn cs a ccd cl outer A₀ base h₀ L m s Q E BB F X NN TT hk hd hu hret
  refine wpAny_call ?_
  k_dflt cell_enter
  k_steps
  exact hret _ [_] _ _ (by assumption) (news_add (by assumption) (by kcj_all) (by k_mem)) ⟨_, _, _, _, _, _, _, rfl, rfl⟩
theorem named_bytes {h₀ h : Heap} {L : Addr} {m : Str → Option Value} (_F : Fr h₀ L h m) (a : Str) {d : Array UInt8} {t : Tok} (_h : m a = some (.bytes d t)) {P : Prop} (k : ∀ y, y = d → P) : P := k _ rfl
theorem b_ne {a b c : Int × Int} (h1 : a = c) (h2 : b = c) : decide (a ≠ b) = false := decide_eq_false fun q => q (h1.trans h2.symm)
theorem named_pair {a b : Int} {c : Int × Int} {P : Prop} (_h : (a, b) = c) (k : ∀ x y, x = a → y = b → P) : P := k _ _ rfl rfl
theorem resO_none {r : Value} {nw : Led} {o : Option (Int × Int)} (h : ResO (fun x => x = .none) o r nw) (e : o = none) : r = .none ∧ nw = [] := by
  subst e; exact h
theorem resO_some {r : Value} {nw : Led} {o : Option (Int × Int)} {T : Int × Int} (h : ResO (fun x => x = .none) o r nw) (e : o = some T) : Res2 T r nw := by
  subst e; exact h

end
section











theorem law2 : PySem.Challenge.rw_iv0042_02.Holds := hd (by
  k_with_none
  w_top off
  k_with "binaryOp Mod int int" => (k_here; refine' modN (by first | decide | assumption | omega) ?_; k_whole; intro wmr wmt9 wmk9 wme wml wmu)
  k_with "binaryOp FloorDiv int int" => (k_here; refine' divN (by first | decide | assumption | omega) (by first | decide | omega) ?_; k_whole; intro wmr wmt9 wmk9 wme)
  k_with "binaryOp Mult int int" => (k_here; refine' mulT (by first | exact okL (by decide) (by decide) | exact okR (by decide) (by decide) | exact okLs (by assumption) (by assumption) | exact okRs (by assumption) (by assumption) | exact okLP (by assumption) (by assumption) (by assumption) | exact okRP (by assumption) (by assumption) (by assumption) | exact okL (by omega) (by omega) | exact okR (by omega) (by omega)) ?_; k_whole; intro wmt9 wmk9)
  k_with "binaryOp Pow int int" => (k_here; (first | refine' pow2 (by omega) (by omega) ?_ | refine' pow3 (by omega) (by omega) ?_ | refine' pow4 (by omega) (by omega) ?_); k_whole; intro wmt9 wmk9)
  k_with "binaryOp Add int int" => (k_here; refine' addT ?_; k_whole; intro wmt9 wmk9)
  k_with "binaryOp Sub int int" => (k_here; refine' subT ?_; k_whole; intro wmt9 wmk9)
  k_with "binaryOp BitXor int int" => (k_here; (first | refine' xor0 (by omega) (by omega) ?_ | refine' xor1 (by omega) (by omega) ?_ | refine' xorB (by omega) (by omega) (by omega) (by omega) ?_); k_whole; intro wxb wxt9 wxk9 wxe wxl wxu)
  k_with "call builtin:pow" => (k_here; refine' powN3 (by omega) (by omega) ?_; k_whole; intro wpr wpt9 wpk9 wpe wpl wpu)
  k_with "exec Assign cons ListComp" => (k_here; refine Hold.of ?_)
  k_with "CompSrc" => (refine Hold.of ?_)
  k_with "execs cons" => (k_here; refine wpAny_execs_cons ?_)
  k_with "execs nil" => (k_here; refine wpAny_execs_nil ?_)
  k_with "eval ListComp" => (k_here; refine Hold.of ?_)
  k_with "subscriptTail" => (k_here; (with_reducible show wpAny _ _ (subscriptTail _ _ (Value.ref _) (Value.int _ _)) _ _ _); k_dflt (first | (with_reducible refine' item_g7 (by k_asm) (by k_mem) (by assumption) (by decide) (by decide) ?_ (by with_unfolding_all rfl) (by (intro _; with_unfolding_all rfl)); intro wy9 wt9 we9p) | (with_reducible refine' item2_0 (by assumption) (by k_mem) ?_ (by with_unfolding_all rfl) (by (intro _; with_unfolding_all rfl)); k_whole) | (with_reducible refine' item2_1 (by assumption) (by k_mem) ?_ (by with_unfolding_all rfl) (by (intro _; with_unfolding_all rfl)); k_whole) | (with_reducible refine' item3_1 (by assumption) (by k_mem) ?_ (by with_unfolding_all rfl) (by (intro _; with_unfolding_all rfl)); k_whole) | ((fail_if_success (have pass9 : Pass := by assumption)); refine Hold.of ?_)))
  k_with "subscriptTail Name" => (k_here; (with_reducible show wpAny _ _ (subscriptTail _ _ (Value.ref _) (Value.int _ _)) _ _ _); k_dflt (first | (with_reducible refine' item_g7 (by k_asm) (by k_mem) (by assumption) (by decide) (by decide) ?_ (by with_unfolding_all rfl) (by (intro _; with_unfolding_all rfl)); intro wy9 wt9 we9p) | (with_reducible refine' item2_0 (by assumption) (by k_mem) ?_ (by with_unfolding_all rfl) (by (intro _; with_unfolding_all rfl)); k_whole) | (with_reducible refine' item2_1 (by assumption) (by k_mem) ?_ (by with_unfolding_all rfl) (by (intro _; with_unfolding_all rfl)); k_whole) | (with_reducible refine' item3_1 (by assumption) (by k_mem) ?_ (by with_unfolding_all rfl) (by (intro _; with_unfolding_all rfl)); k_whole) | ((fail_if_success (have pass9 : Pass := by assumption)); refine Hold.of ?_)))
  k_with "subscriptTail Name Constant" => (k_here; (with_reducible show wpAny _ _ (subscriptTail _ _ (Value.ref _) (Value.int _ _)) _ _ _); k_dflt (first | (with_reducible refine' item_g7 (by k_asm) (by k_mem) (by assumption) (by decide) (by decide) ?_ (by with_unfolding_all rfl) (by (intro _; with_unfolding_all rfl)); intro wy9 wt9 we9p) | (with_reducible refine' item2_0 (by assumption) (by k_mem) ?_ (by with_unfolding_all rfl) (by (intro _; with_unfolding_all rfl)); k_whole) | (with_reducible refine' item2_1 (by assumption) (by k_mem) ?_ (by with_unfolding_all rfl) (by (intro _; with_unfolding_all rfl)); k_whole) | (with_reducible refine' item3_1 (by assumption) (by k_mem) ?_ (by with_unfolding_all rfl) (by (intro _; with_unfolding_all rfl)); k_whole) | ((fail_if_success (have pass9 : Pass := by assumption)); refine Hold.of ?_)))
  k_with "subscriptTail Name Constant ref int" => (k_here; (with_reducible show wpAny _ _ (subscriptTail _ _ (Value.ref _) (Value.int _ _)) _ _ _); k_dflt (first | (with_reducible refine' item_g7 (by k_asm) (by k_mem) (by assumption) (by decide) (by decide) ?_ (by with_unfolding_all rfl) (by (intro _; with_unfolding_all rfl)); intro wy9 wt9 we9p) | (with_reducible refine' item2_0 (by assumption) (by k_mem) ?_ (by with_unfolding_all rfl) (by (intro _; with_unfolding_all rfl)); k_whole) | (with_reducible refine' item2_1 (by assumption) (by k_mem) ?_ (by with_unfolding_all rfl) (by (intro _; with_unfolding_all rfl)); k_whole) | (with_reducible refine' item3_1 (by assumption) (by k_mem) ?_ (by with_unfolding_all rfl) (by (intro _; with_unfolding_all rfl)); k_whole) | ((fail_if_success (have pass9 : Pass := by assumption)); refine Hold.of ?_)))
  k_with "eval IfExp" => (k_here; (fail_if_success (have pass9 : Pass := by assumption)); refine Hold.of ?_)
  k_with "isTrue BoolOp" => (k_here; (with_reducible show wpAny _ _ (isTrue (Expr.BoolOp BoolOp.Or _ _) _ _) _ _ _); (fail_if_success (have pass9 : Pass := by assumption)); refine Hold.of ?_)
  k_with "isTrue Compare" => (k_here; (with_reducible show wpAny _ _ (isTrue (Expr.Compare _ [CmpOp.NotEq] _ _) _ _) _ _ _); (fail_if_success (have pass9 : Pass := by assumption)); refine Hold.of ?_)
  k_with "exec If" => (k_here; (with_reducible show wpAny _ _ (exec (Stmt.If (Expr.Compare _ [CmpOp.Gt] _ _) _ _ _) _) _ _ _); (fail_if_success (have pass9 : Pass := by assumption)); refine Hold.of ?_)
  k_with "isTrue Compare" => (k_here; (with_reducible show wpAny _ _ (isTrue (Expr.Compare _ [CmpOp.Eq] _ _) _ _) _ _ _); (fail_if_success (have pass9 : Pass := by assumption)); refine Hold.of ?_)
  k_with "compareOp NotEq ref ref" => (k_here; k_dflt (first | (refine' ne_tup3 (by assumption) (by k_mem) (by k_mem) (by ktr_units) ?_; k_whole) | (refine' ne_tup2 (by assumption) (by k_mem) (by k_mem) (by ktr_units) ?_; k_whole)))
  k_with "compareOp Eq ref ref" => (k_here; k_dflt (refine' eq_tup2 (by assumption) (by k_mem) (by k_mem) (by ktr_units) ?_; k_whole))
  k_with "call ref" => (k_here; (with_reducible show wpAny _ _ (call (Value.ref 117) _) _ _ _); k_dflt (refine' callOk_use (by k_asm) (by k_asm) (by k_asm) (by k_asm) (by k_asm) (by first | exact rfl | assumption) (curveG_ok (by assumption)) (by ktr_room) (by ktr_units) ?_; rintro wr9 wnw9 wh9 wtk9 wF9 wN9 ⟨wp9, wH9, wk9, wtab9, wA9, wB9, wD9, wl9, wits9, wc9, wt91, wt92, wt93, wd9, we9, whm9, whl9, whp9, wpf9, whg9⟩; subst we9; (replace whm9 := mem_N wN9 whm9); (replace whl9 := mem_N wN9 whl9); (replace whp9 := pts_N wN9 whp9); (try k_sweep); (try dsimp only); (try k_fold)))
  k_with "call ref" => (k_here; (with_reducible show wpAny _ _ (call (Value.ref 131) _) _ _ _); k_dflt (refine' callOk_use (by k_asm) (by k_asm) (by k_asm) (by k_asm) (by k_asm) (by first | exact rfl | assumption) (roundG_ok (by assumption) (by omega) (by k_mem)) (by ktr_room) (by ktr_units) ?_; rintro wr9 wnw9 wh9 wtk9 wF9 wN9 ⟨wl9, wits9, wc9, we9, whl9, whz9, whr9⟩; subst we9; (replace whl9 := mem_N wN9 whl9); (replace whr9 := RowIs.mk whz9 whr9); (try k_sweep); (try dsimp only); (try k_fold)))
  k_with "call ref" => (k_here; (with_reducible show wpAny _ _ (call (Value.ref 136) _) _ _ _); k_dflt (refine' callOk_use (by k_asm) (by k_asm) (by k_asm) (by k_asm) (by k_asm) (by first | exact rfl | assumption) (oct2_ok (by ((repeat' (with_reducible first | assumption | apply And.intro)); all_goals omega))) (by ktr_room) (by ktr_units) ?_; rintro wr9 wnw9 wh9 wtk9 wF9 wN9 ⟨war9, wt9, we91, we92, whb9⟩; subst we91; subst we92; (try simp only [List.cons_append, List.nil_append] at wN9); (try k_sweep); (try dsimp only); (try k_fold)))
  k_with "call ref" => (k_here; (with_reducible show wpAny _ _ (call (Value.ref 143) _) _ _ _); k_dflt (refine' callOk_use (by k_asm) (by k_asm) (by k_asm) (by k_asm) (by k_asm) (by first | exact rfl | assumption) (value2_ok (by assumption)) (by ktr_room) (by ktr_units) ?_; rintro wr9 wnw9 wh9 wtk9 wF9 wN9 ⟨wt9, we91, we92⟩; subst we91; subst we92; (try simp only [List.cons_append, List.nil_append] at wN9); (try k_sweep); (try dsimp only); (try k_fold)))
  k_with "call ref" => (k_here; (with_reducible show wpAny _ _ (call (Value.ref 150) _) _ _ _); k_dflt (refine' callOk_use (by k_asm) (by k_asm) (by k_asm) (by k_asm) (by k_asm) (by first | exact rfl | assumption) (plain_ok (by assumption)) (by ktr_room) (by ktr_units) ?_; rintro wr9 wnw9 wh9 wtk9 wF9 wN9 ⟨wD9, wX9, wY9, ws91, ws92, wd9, we9, ⟨wX9l, wX9u⟩, ⟨wY9l, wY9u⟩, we91, we92⟩; subst we91; subst we92; (try simp only [List.cons_append, List.nil_append] at wN9); (try k_sweep); (try dsimp only); (try k_fold)))
  k_with "call ref" => (k_here; (with_reducible show wpAny _ _ (call (Value.ref 91) _) _ _ _); k_dflt (refine' callOk_use (by k_asm) (by k_asm) (by k_asm) (by k_asm) (by k_asm) (by first | exact rfl | assumption) (sign_ok (by k_mem) (by ((repeat' (with_reducible first | assumption | apply And.intro)); all_goals omega))) (by ktr_room) (by ktr_units) ?_; rintro wr9 wnw9 wh9 wtk9 wF9 wN9 ⟨wD9, wX9, wY9, wZ9, ws91, ws92, ws93, wd9, we9, ⟨wX9l, wX9u⟩, ⟨wY9l, wY9u⟩, ⟨wZ9l, wZ9u⟩, we91, we92⟩; subst we91; subst we92; (try simp only [List.cons_append, List.nil_append] at wN9); (try k_sweep); (try dsimp only); (try k_fold)))
  k_with "call ref" => (k_here; (with_reducible show wpAny _ _ (call (Value.ref 84) _) _ _ _); k_dflt (refine' callOk_use (by k_asm) (by k_asm) (by k_asm) (by k_asm) (by k_asm) (by first | exact rfl | assumption) (pub_ok (by k_mem) (by ((repeat' (with_reducible first | assumption | apply And.intro)); all_goals omega))) (by ktr_room) (by ktr_units) ?_; rintro wr9 wnw9 wh9 wtk9 wF9 wN9 ⟨wD9, wX9, wY9, ws91, ws92, wd9, we9, ⟨wX9l, wX9u⟩, ⟨wY9l, wY9u⟩, we91, we92⟩; subst we91; subst we92; (try simp only [List.cons_append, List.nil_append] at wN9); (try k_sweep); (try dsimp only); (try k_fold)))
  k_with "call ref" => (k_here; (with_reducible show wpAny _ _ (call (Value.ref 157) _) _ _ _); k_dflt (refine' callLawC_use (by k_asm) (by k_asm) (by k_asm) (by k_asm) (by k_asm) (by first | exact rfl | assumption) (told2_ok (by k_mem) (by k_mem) (by ((repeat' (with_reducible first | assumption | apply And.intro)); all_goals omega))) ?_; intro wr9 wnw9 wh9 wtk9 wF9 wN9 wo9; (try simp only [List.cons_append, List.nil_append] at wN9); (try k_sweep); (try dsimp only); (try k_fold)))
  k_with "call builtin:len" => (k_here; k_dflt (refine' lenG (by k_asm) (by k_mem) (by assumption) (by assumption) (by assumption) ?_; intro wn9 wt9 wk9 we9y we9l we9u))
  k_with "call ref" => (k_here; (with_reducible show wpAny _ _ (call (Value.ref 105) _) _ _ _); k_dflt (refine' callOk_use (by k_asm) (by k_asm) (by k_asm) (by k_asm) (by k_asm) (by first | exact rfl | assumption) primes_ok (by ktr_room) (by ktr_units) ?_; rintro wr9 wnw9 wh9 wtk9 wF9 wN9 ⟨wl9, wq91, wq92, wq93, wq94, wq95, wc9, we91, we92⟩; subst we91; subst we92; (try simp only [List.cons_append, List.nil_append] at wN9); (try k_sweep); (try dsimp only); (try k_fold)))
  w_strict (
    k_go0
    (all_goals try k_fold)
    refine' cutR ?zF0 ?zN0 ?zH0 ?zK0
    case zF0 => assumption
    case zN0 => assumption
    case zK0 =>
      intro m9 led9 h9 tk9 F9 N9
      k_steps
    intro Q0 E0 hret0
    k_steps
    unfold Hold
    rename IntsAre _ _ => hI9
    rename Fr _ _ _ _ => lF
    refine LCg.Assign_ListComp_U lF (by rfl) (by with_unfolding_all rfl) (by with_unfolding_all rfl) (by decide) (by rfl) (by decide) (by rfl) (by rfl) (by rfl) ?_
    k_steps
    unfold Hold
    rename IsRange _ _ _ _ _ _ _ _ => hr
    rename Fr _ _ _ _ => lF
    rename News _ _ _ _ => lN
    refine LCg.CompSrc.range (by rfl) lF lN hr (by decide) (by rfl) (show 7 ≤ sizeLine from Nat.le_of_ble_eq_true rfl) ?_
    intro g9
    refine' kcf_range (g7 _) ?zturn ?zfin
    case zturn =>
      intro k t I oI C oC D m2 ys h tk E' hk0 hk1 hC hx F2 N2 off ne hmark
      have pass9 : Pass := ⟨⟩
      k_steps
    case zfin =>
      unfold KPfDone
      intro ys hys D h tk F2 N2 off
      unfold LCg.lst at N2
      k_steps
      unfold Hold
      refine' cutI F2 N2 (fun _ => True) ?h1 ?k1
      case h1 =>
        intro Q9 pass hq
        k_steps
        all_goals exact hq _ _ _ _ (by assumption) (news_sub (by assumption) (by kcj_all)) trivial
      case k1 =>
        intro once t9 h9 tk9 F9 N9 _
        obtain ⟨u91, ts91, F91⟩ := fr_slim F9 [(Str.ofString "given", Function.const Tok (Value.ref D))] ⟨⟨0, rfl⟩, trivial⟩
        dsimp only [bmapT, Function.const] at F91
        have N91 := news_sub N9 (led_cons (q := (D, ({ cls := .type "list", data := .seq ys.toArray ys.length } : Obj))) (by k_mem) led_nil)
        clear F9 N9 F2 N2 off
        (try k_sweep)
        (try dsimp only)
        (try k_fold)
        k_steps
        unfold Hold
        rename Fr _ _ _ _ => lF
        rename News _ _ _ _ => lN
        k_dflt (refine' item_primes lN ?pm ?pa ?pb ?_ ?ps; (case pm => k_mem); (case pa => assumption); (case pb => assumption); (case ps => with_unfolding_all rfl))
        intro p H kk tab tp pf
        have N92 := news_sub lN (led_cons (q := (D, ({ cls := .type "list", data := .seq ys.toArray ys.length } : Obj))) (by k_mem) led_nil)
        clear lN
        (try k_sweep)
        (try dsimp only)
        (try k_fold)
        k_steps
        unfold Hold
        rename Fr _ _ _ _ => lF
        rename News _ _ _ _ => lN
        k_dflt (refine' item_pts lN whl9 whp9 (fun _ h => h) wpf9 whg9 we9y ?a2 ?b2 we9u ?_ ?s2 ?g2; (case a2 => omega); (case b2 => omega); (case s2 => with_unfolding_all rfl); (case g2 => (intro _; with_unfolding_all rfl)))
        intro db x y tx ty cb hmb K
        obtain ⟨u92, ts92, F92⟩ := fr_slim lF [(Str.ofString "given", Function.const Tok (Value.ref D)), (Str.ofString "once", Value.int once), (Str.ofString "prime", Value.int (wp9 : Int)), (Str.ofString "linear", Value.int wA9), (Str.ofString "constant", Value.int wB9), (Str.ofString "order", Value.int (wn9 : Int))] ⟨⟨0, rfl⟩, ⟨_, rfl⟩, ⟨_, rfl⟩, ⟨_, rfl⟩, ⟨_, rfl⟩, ⟨_, rfl⟩, trivial⟩
        dsimp only [bmapT, Function.const] at F92
        have N93 := news_sub lN (led_cons (q := (db, tup2 x y tx ty cb)) hmb (led_cons (q := (D, ({ cls := .type "list", data := .seq ys.toArray ys.length } : Obj))) (by k_mem) led_nil))
        clear lF lN hmb whl9 whp9 wpf9 whg9 whm9 pf we9y
        obtain ⟨⟨hP0, ⟨hP1, hP2⟩, ⟨hA1, hA2⟩, hB1, hB2⟩, ⟨⟨hx1, hx2⟩, hy1, hy2⟩, hN1, hN2⟩ := K.bnd
        (try k_sweep)
        (try dsimp only)
        (try k_fold)
        k_steps
        unfold Hold
        rename Fr _ _ _ _ => lF
        rename News _ _ _ _ => lN
        generalize wnw9 ++ [(db, tup2 x y tx ty cb), (D, ({ cls := .type "list", data := .seq ys.toArray ys.length } : Obj))] = rl at *
        k_dflt (refine' item_row (kk := bval (KBw.bInts war9)) lN (List.mem_cons_of_mem _ whl9) whr9 (fun _ h => List.mem_cons_of_mem _ h) K we9u wme ?_ ?s3 ?g3; (case s3 => with_unfolding_all rfl); (case g3 => (intro _; with_unfolding_all rfl)))
        intro v S hpv hSv
        (try k_sweep)
        (try dsimp only)
        (try k_fold)
        k_steps
        unfold Hold
        rename Fr _ _ _ _ => lF
        rename News _ _ _ _ => lN
        refine named_ref lF (Str.ofString "curve") rfl ?_
        intro cv ecv
        subst ecv
        refine named_bytes lF (Str.ofString "message") rfl ?_
        intro ma ema
        subst ema
        refine named_bytes lF (Str.ofString "secret") rfl ?_
        intro pa epa
        subst epa
        have hpub := we9.trans hSv
        obtain ⟨u93, ts93, F93⟩ := fr_slim lF [(Str.ofString "once", Value.int once), (Str.ofString "prime", Value.int (wp9 : Int)), (Str.ofString "order", Value.int (wn9 : Int)), (Str.ofString "row", Function.const Tok (Value.ref wl9)), (Str.ofString "curve", Function.const Tok (Value.ref cv)), (Str.ofString "message", Value.bytes ma), (Str.ofString "secret", Value.bytes pa), (Str.ofString "public", Function.const Tok (Value.ref wD9))] ⟨⟨_, rfl⟩, ⟨_, rfl⟩, ⟨_, rfl⟩, ⟨0, rfl⟩, ⟨0, rfl⟩, ⟨_, rfl⟩, ⟨_, rfl⟩, ⟨0, rfl⟩, trivial⟩
        dsimp only [bmapT, Function.const] at F93
        have N93 := news_sub lN (led_cons (q := (wD9, tup2 wX9 wY9 _ _ _)) (by k_mem) (led_cons (q := (cv, tup6 (wp9 : Int) (wn9 : Int) wA9 wB9 x y _ _ _ _ _ _ _)) (by k_mem) (news := rl) (by kcj_all)))
        clear lF lN hpv hSv we9
        refine' cutF F93 N93 ?h3 ?k3
        case h3 =>
          intro Q9 pass hq
          k_steps
          exact hq _ _ _ (by assumption) (news_sub (by assumption) (by kcj_all)) (b_ne we9 hpub)
        case k3 =>
          intro h9 tk9 F9 N9
          (try k_sweep)
          (try dsimp only)
          (try k_fold)
          k_steps
          unfold Hold
          rename Fr _ _ _ _ => lF
          rename News _ _ _ _ => lN
          rename ResO _ _ _ _ => o9
          rename (_, _, _) = psign _ _ _ _ _ _ _ _ => es9
          rename (_, _) = pmul _ _ _ _ _ (bval _) => hpub9
          refine named_ref lF (Str.ofString "public") rfl ?_
          intro pd epd
          subst epd
          refine named_pair hpub9 ?_
          intro px py epx epy
          subst epx epy
          by_cases hk : once % (wn9 : Int) = 0
          · have hr : wY9 = 0 := sign_zero hk es9
            obtain ⟨eo1, eo2⟩ := resO_none o9 (rec_zero hr)
            subst eo1 eo2
            obtain ⟨u94, ts94, F94⟩ := fr_slim lF [(Str.ofString "once", Value.int once), (Str.ofString "order", Value.int (wn9 : Int)), (Str.ofString "found", Function.const Tok (Value.ref wD9)), (Str.ofString "back", Function.const Tok Value.none)] ⟨⟨_, rfl⟩, ⟨_, rfl⟩, ⟨0, rfl⟩, ⟨0, rfl⟩, trivial⟩
            dsimp only [bmapT, Function.const] at F94
            have N94 := news_sub lN (led_cons (q := (wD9, tup3 wX9 wY9 wZ9 ws91 ws92 ws93 wd9)) (by k_mem) led_nil)
            clear lF lN
            refine' cutB F94 N94 True ?h5 ?k5
            case h5 =>
              intro Q9 pass hq
              k_steps
              exact hq _ _ _ (by assumption) (news_sub (by assumption) (by kcj_all)) (iff_of_true (beq_iff_eq.mpr (wme.symm.trans hk)) trivial)
            case k5 =>
              intro b9 h9 tk9 F9 N9 hb9
              have eb9 : b9 = true := hb9.mpr trivial
              clear hb9
              subst eb9
              have pass9 : Pass := ⟨⟩
              (try k_sweep)
              (try dsimp only)
              (try k_fold)
              k_steps
              all_goals first
                | exact absurd hr (by assumption)
                | exact hret0 _ _ _ _ _ (by assumption) (by assumption) rfl
          · obtain ⟨u94, ts94, F94⟩ := fr_slim lF [(Str.ofString "once", Value.int once), (Str.ofString "prime", Value.int (wp9 : Int)), (Str.ofString "order", Value.int (wn9 : Int)), (Str.ofString "row", Function.const Tok (Value.ref wl9)), (Str.ofString "message", Value.bytes ma), (Str.ofString "secret", Value.bytes pa), (Str.ofString "public", Function.const Tok (Value.ref pd)), (Str.ofString "found", Function.const Tok (Value.ref wD9)), (Str.ofString "back", Function.const Tok wr9)] ⟨⟨_, rfl⟩, ⟨_, rfl⟩, ⟨_, rfl⟩, ⟨0, rfl⟩, ⟨_, rfl⟩, ⟨_, rfl⟩, ⟨0, rfl⟩, ⟨0, rfl⟩, ⟨0, rfl⟩, trivial⟩
            dsimp only [bmapT, Function.const] at F94
            have N94 := lN
            clear lF lN
            refine' cutF F94 N94 ?h4 ?k4
            case h4 =>
              intro Q9 pass hq
              k_steps
              exact hq _ _ _ (by assumption) (news_sub (by assumption) (by kcj_all)) (beq_eq_false_iff_ne.mpr fun q => hk (wme.trans q))
            case k4 =>
              intro h9 tk9 F9 N9
              (try k_sweep)
              (try dsimp only)
              (try k_fold)
              k_steps
              unfold Hold
              rename Fr _ _ _ _ => lF
              rename News _ _ _ _ => lN
              k_dflt (refine' item_rowK lN ?m4 whr9 ?up4 K we9u wme (fun q => hk (wme.trans q)) ?_ ?s4 ?g4; (case m4 => k_mem); (case up4 => kcj_all); (case s4 => with_unfolding_all rfl); (case g4 => (intro _; with_unfolding_all rfl)))
              intro dR x0 y0 tR1 tR2 cR hmR hx0 hy0 hR
              obtain ⟨hx01, hx02⟩ := hx0
              obtain ⟨hy01, hy02⟩ := hy0
              (try k_sweep)
              (try dsimp only)
              (try k_fold)
              k_steps
              unfold Hold
              rename Fr _ _ _ _ => lF
              rename News _ _ _ _ => lN
              rename once % _ = _ => hm9
              have hi : (once % (wn9 : Int)) ^ ((wn9 : Int) - 2).toNat % (wn9 : Int) = wpr := by rw [hm9]; exact wpe
              have hs := wme
              obtain ⟨u95, ts95, F95⟩ := fr_slim lF [(Str.ofString "prime", Value.int (wp9 : Int)), (Str.ofString "order", Value.int (wn9 : Int)), (Str.ofString "public", Function.const Tok (Value.ref pd)), (Str.ofString "found", Function.const Tok (Value.ref wD9)), (Str.ofString "back", Function.const Tok wr9), (Str.ofString "place", Value.int x0), (Str.ofString "height", Value.int y0), (Str.ofString "second", Value.int wmr)] ⟨⟨_, rfl⟩, ⟨_, rfl⟩, ⟨0, rfl⟩, ⟨0, rfl⟩, ⟨0, rfl⟩, ⟨_, rfl⟩, ⟨_, rfl⟩, ⟨_, rfl⟩, trivial⟩
              dsimp only [bmapT, Function.const] at F95
              have N95 := lN
              clear lF lN
              refine' cutE F95 N95 (Str.ofString "second") (Str.ofString "height") (fun s1 y1 => psign (wp9 : Int) (wn9 : Int) wA9 x y (bval (KBw.bInts ma)) (bval (KBw.bInts pa)) once = (27 + y1 % 2, x0, s1) ∧ ((y1 = y0 ∧ s1 = wmr) ∨ (y1 = (wp9 : Int) - y0 ∧ s1 = (wn9 : Int) - wmr ∧ (wn9 : Int) < 2 * wmr))) ?h6 ?k6
              case h6 =>
                intro Q9 pass hq
                k_steps
                · rename Fr _ _ _ _ => lF
                  refine hq _ _ _ _ _ _ (fr3 lF rfl rfl (fun z h1 h2 => by simp only [if_neg h1, if_neg h2])) (news_sub (by assumption) (by kcj_all)) ⟨sg2_hi K hk hR hi hs (by assumption), .inr ⟨rfl, rfl, by assumption⟩⟩
                · rename Fr _ _ _ _ => lF
                  refine hq _ _ _ _ _ _ (fr2 lF rfl rfl) (news_sub (by assumption) (by kcj_all)) ⟨sg2_lo K hk hR hi hs (by assumption), .inl ⟨rfl, rfl⟩⟩
              case k6 =>
                rintro s1 ts1 y1 ty1 h8 tk8 F8 N8 ⟨hsg, hvs⟩
                (try k_sweep)
                (try dsimp only)
                (try k_fold)
                k_steps
                unfold Hold
                have xe4 := es9.trans hsg
                injection xe4 with xe5 xe6
                injection xe6 with xe7 xe8
                replace xe5 := xe5.symm
                replace xe7 := xe7.symm
                replace xe8 := xe8.symm
                subst xe5 xe7 xe8
                have hpre := rec2 K hk hR hi hs hvs
                refine' cutF F8 N8 ?h7 ?k7
                case h7 =>
                  intro Q9 pass hq
                  k_steps
                  exact hq _ _ _ (by assumption) (news_sub (by assumption) (by kcj_all)) (decide_eq_false fun q => q (by rw [wme]))
                case k7 =>
                  intro h9 tk9 F9 N9
                  (try k_sweep)
                  (try dsimp only)
                  (try k_fold)
                  k_steps
                  unfold Hold
                  rename Fr _ _ _ _ => lF
                  rename News _ _ _ _ => lN
                  refine' cutB lF lN (x0 % (wn9 : Int) = 0 ∨ s1 = 0) ?h8 ?k8
                  case h8 =>
                    intro Q9 pass hq
                    k_steps
                    · exact hq _ _ _ (by assumption) (news_sub (by assumption) (by kcj_all)) (iff_of_true rfl (.inl (wme.trans (by assumption))))
                    · exact hq _ _ _ (by assumption) (news_sub (by assumption) (by kcj_all)) (iff_of_true rfl (.inr (by assumption)))
                    · exact hq _ _ _ (by assumption) (news_sub (by assumption) (by kcj_all)) (iff_of_false Bool.false_ne_true fun q => q.elim (fun q => absurd (wme.symm.trans q) (by assumption)) fun q => absurd q (by assumption))
                  case k8 =>
                    intro b9 h7 tk7 F7 N7 hb9
                    (try k_sweep)
                    (try dsimp only)
                    (try k_fold)
                    match b9, hb9 with
                    | true, hb9 =>
                      obtain ⟨eo1, eo2⟩ := resO_none o9 (hpre.trans (if_pos (hb9.mp rfl)))
                      subst eo1 eo2
                      have pass9 : Pass := ⟨⟩
                      k_steps
                      all_goals exact hret0 _ _ _ _ _ (by assumption) (by assumption) rfl
                    | false, hb9 =>
                      obtain ⟨D4, X4, Y4, s41, s42, d4, e4, _, _, er4, en4⟩ := resO_some o9 (hpre.trans (if_neg fun q => Bool.false_ne_true (hb9.mpr q)))
                      subst er4 en4
                      simp only [List.cons_append, List.nil_append] at N7
                      have pass9 : Pass := ⟨⟩
                      k_steps
                      all_goals exact hret0 _ _ _ _ _ (by assumption) (by assumption) (decide_eq_true (e4.trans hpub9.symm))))

end
end Mine
theorem PySem.Challenge.cw_iv0042_02_holds : PySem.Challenge.rw_iv0042_02.Holds :=
  Mine.law2
