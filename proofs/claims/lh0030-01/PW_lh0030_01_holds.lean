import PyProof.Rows.All
import Wide.All
import OpenK.AllK
import Wide.FinOn
import Lean
import PySem.Challenge.RW_lh0030_01
set_option Elab.async false
set_option maxRecDepth 100000
set_option maxHeartbeats 8000000
set_option linter.unusedVariables false
set_option linter.unusedSimpArgs false
set_option compiler.extract_closed false
namespace EcLaw
namespace Crv
section
variable {F : Type} [Lean.Grind.Field F]
/-- three numbers of a curve y² = x³ + c lie on a line, each as often as the line meets the curve there -/
structure Lin (c l m x1 y1 x2 y2 x3 y3 : F) : Prop where
  a1 : y1 = l * x1 + m
  a2 : y2 = l * x2 + m
  a3 : y3 = l * x3 + m
  s1 : x1 + x2 + x3 = l * l
  s2 : x1 * x2 + x1 * x3 + x2 * x3 = - (2 * l * m)
  s3 : x1 * x2 * x3 = m * m - c
variable {c l m l' m' x1 y1 x2 y2 x3 y3 x3' y3' : F}
theorem Lin.rot (h : Lin c l m x1 y1 x2 y2 x3 y3) : Lin c l m x2 y2 x3 y3 x1 y1 := by
  obtain ⟨h1, h2, h3, h4, h5, h6⟩ := h
  constructor <;> grind
theorem Lin.swap (h : Lin c l m x1 y1 x2 y2 x3 y3) : Lin c l m x2 y2 x1 y1 x3 y3 := by
  obtain ⟨h1, h2, h3, h4, h5, h6⟩ := h
  constructor <;> grind
theorem Lin.neg (h : Lin c l m x1 y1 x2 y2 x3 y3) : Lin c (-l) (-m) x1 (-y1) x2 (-y2) x3 (-y3) := by
  obtain ⟨h1, h2, h3, h4, h5, h6⟩ := h
  constructor <;> grind
theorem Lin.on3 (h : Lin c l m x1 y1 x2 y2 x3 y3) : y3 * y3 = x3 * x3 * x3 + c := by
  obtain ⟨h1, h2, h3, h4, h5, h6⟩ := h
  grind
theorem Lin.tan (h : Lin c l m x1 y1 x1 y2 x3 y3) : 2 * l * y1 = 3 * x1 * x1 := by
  obtain ⟨h1, h2, h3, h4, h5, h6⟩ := h
  grind
theorem Lin.slope (h : Lin c l m x1 y1 x2 y2 x3 y3) (h' : Lin c l' m' x1 y1 x2 y2 x3' y3') (t : (2 : F) ≠ 0) (n : x1 = x2 → y1 + y2 ≠ 0) : l = l' ∧ m = m' := by
  by_cases e : x1 = x2
  · subst e
    have k := h.tan
    have k' := h'.tan
    have e1 := h.a1
    have e2 := h.a2
    have e3 := h'.a1
    have := n rfl
    constructor <;> grind
  · have e1 := h.a1
    have e2 := h.a2
    have e3 := h'.a1
    have e4 := h'.a2
    constructor <;> grind
theorem Lin.third (h : Lin c l m x1 y1 x2 y2 x3 y3) (h' : Lin c l' m' x1 y1 x2 y2 x3' y3') (t : (2 : F) ≠ 0) (n : x1 = x2 → y1 + y2 ≠ 0) : x3 = x3' ∧ y3 = y3' := by
  obtain ⟨rfl, rfl⟩ := h.slope h' t n
  obtain ⟨h1, h2, h3, h4, h5, h6⟩ := h
  obtain ⟨k1, k2, k3, k4, k5, k6⟩ := h'
  have : x3 = x3' := by grind
  constructor <;> grind
/-- the line through two points -/
theorem lin_chord (o1 : y1 * y1 = x1 * x1 * x1 + c) (o2 : y2 * y2 = x2 * x2 * x2 + c) (h : x1 ≠ x2) (hl : l * (x2 - x1) = y2 - y1) :
    Lin c l (y1 - l * x1) x1 y1 x2 y2 (l * l - x1 - x2) (l * (l * l - x1 - x2) + y1 - l * x1) := by
  constructor <;> grind
theorem lin_tan (o1 : y1 * y1 = x1 * x1 * x1 + c) (hl : l * (2 * y1) = 3 * x1 * x1) :
    Lin c l (y1 - l * x1) x1 y1 x1 y1 (l * l - x1 - x1) (l * (l * l - x1 - x1) + y1 - l * x1) := by
  constructor <;> grind
end
end Crv
end EcLaw

namespace EcLaw
namespace Crv
section
variable {F : Type} [Lean.Grind.Field F]
/-- four numbers at which a parabola y = a x² + b x + g meets the curve -/
structure Par (c a b g x1 y1 x2 y2 x3 y3 x4 y4 : F) : Prop where
  a1 : y1 = a * x1 * x1 + b * x1 + g
  a2 : y2 = a * x2 * x2 + b * x2 + g
  a3 : y3 = a * x3 * x3 + b * x3 + g
  a4 : y4 = a * x4 * x4 + b * x4 + g
  s1 : 2 * a * b - 1 = - (a * a * (x1 + x2 + x3 + x4))
  s2 : b * b + 2 * a * g = a * a * (x1 * x2 + x1 * x3 + x1 * x4 + x2 * x3 + x2 * x4 + x3 * x4)
  s3 : 2 * b * g = - (a * a * (x1 * x2 * x3 + x1 * x2 * x4 + x1 * x3 * x4 + x2 * x3 * x4))
  s4 : g * g - c = a * a * (x1 * x2 * x3 * x4)
variable {c l m l' m' a b g a' b' g' x1 y1 x2 y2 x3 y3 x4 y4 x5 y5 : F}
theorem Par.rot (h : Par c a b g x1 y1 x2 y2 x3 y3 x4 y4) : Par c a b g x2 y2 x3 y3 x1 y1 x4 y4 := by
  obtain ⟨h1, h2, h3, h4, h5, h6, h7, h8⟩ := h
  constructor <;> grind
theorem Par.swap (h : Par c a b g x1 y1 x2 y2 x3 y3 x4 y4) : Par c a b g x2 y2 x1 y1 x3 y3 x4 y4 := by
  obtain ⟨h1, h2, h3, h4, h5, h6, h7, h8⟩ := h
  constructor <;> grind
theorem Par.ne (h : Par c a b g x1 y1 x2 y2 x3 y3 x4 y4) : a ≠ 0 := by
  obtain ⟨h1, h2, h3, h4, h5, h6, h7, h8⟩ := h
  grind
/-- a line through A, B and -S, another through S, C and D: a parabola through A, B, C and D -/
theorem par_of (h : Lin c l m x1 y1 x2 y2 x5 (-y5)) (h' : Lin c l' m' x5 y5 x3 y3 x4 y4) (ha : a * (l + l') = 1) :
    Par c a (l - a * (x1 + x2)) (m + a * x1 * x2) x1 y1 x2 y2 x3 y3 x4 y4 := by
  obtain ⟨h1, h2, h3, h4, h5, h6⟩ := h
  obtain ⟨k1, k2, k3, k4, k5, k6⟩ := h'
  have e : m' = -m - (l + l') * x5 := by grind
  have e1 : (l - l') = a * (x1 + x2 - x3 - x4) := by grind
  have e2 : m - m' = a * (x3 * x4 - x1 * x2) := by grind
  have e3 : x5 + 2 * a * m + a * a * x1 * x2 = a * a * x3 * x4 := by clear h1 h2 h3 h4 h5 h6 k1 k2 k3 k4 k5 k6 e1; grind
  constructor
  · grind
  · grind
  · grind
  · grind
  · grind
  · grind
  · grind
  · clear h1 h2 h3 h4 h5 k1 k2 k3 k4 k5 k6 e e1 e2 ha; grind
/-- the parabola through three points is one -/
theorem Par.vert (h : Par c a b g x1 y1 x1 y2 x3 y3 x4 y4) : 2 * y1 * (2 * a * x1 + b) = 3 * x1 * x1 := by
  obtain ⟨h1, h2, h3, h4, h5, h6, h7, h8⟩ := h
  grind
theorem Par.vert2 (h : Par c a b g x1 y1 x1 y2 x1 y3 x4 y4) : 2 * a * y1 + (2 * a * x1 + b) * (2 * a * x1 + b) = 3 * x1 := by
  obtain ⟨h1, h2, h3, h4, h5, h6, h7, h8⟩ := h
  grind
variable {x6 y6 : F}
theorem Par.coef (h : Par c a b g x1 y1 x2 y2 x3 y3 x4 y4) (h' : Par c a' b' g' x1 y1 x2 y2 x3 y3 x6 y6)
    (n1 : x1 = x2 → y1 + y2 ≠ 0) (n2 : x1 = x3 → y1 + y3 ≠ 0) (n3 : x2 = x3 → y2 + y3 ≠ 0) : a = a' ∧ b = b' ∧ g = g' := by
  have key : ∀ {c a b g a' b' g' x1 y1 y2 x3 y3 x4 y4 x6 y6 : F}, Par c a b g x1 y1 x1 y2 x3 y3 x4 y4 → Par c a' b' g' x1 y1 x1 y2 x3 y3 x6 y6 → y1 + y2 ≠ 0 → (x1 = x3 → y1 + y3 ≠ 0) → a = a' ∧ b = b' ∧ g = g' := by
    intro c a b g a' b' g' x1 y1 y2 x3 y3 x4 y4 x6 y6 h h' n1 n2
    have v := h.vert
    have v' := h'.vert
    have e1 := h.a1
    have e2 := h.a2
    have e3 := h.a3
    have e1' := h'.a1
    have e2' := h'.a2
    have e3' := h'.a3
    have t : 2 * y1 ≠ 0 := by grind
    have ev : 2 * a * x1 + b = 2 * a' * x1 + b' := by clear e1 e2 e3 e1' e2' e3' h h'; grind
    by_cases q : x1 = x3
    · subst q
      have w := h.vert2
      have w' := h'.vert2
      have ea : a = a' := by
        rw [ev] at w
        clear e1 e2 e3 e1' e2' e3' h h' v v' ev
        grind
      subst ea
      have eb : b = b' := by clear e2 e3 e2' e3' h h' v v' w w'; grind
      subst eb
      refine ⟨rfl, rfl, ?_⟩
      clear h h' v v' w w' ; grind
    · have ea : a = a' := by clear h h' v v' e2 e2'; grind
      subst ea
      have eb : b = b' := by clear e2 e3 e2' e3' h h' v v' ; grind
      subst eb
      refine ⟨rfl, rfl, ?_⟩
      clear h h' v v' ; grind
  by_cases q : x1 = x2
  · subst q; exact key h h' (n1 rfl) n2
  by_cases q2 : x2 = x3
  · subst q2; exact key h.rot h'.rot (n3 rfl) (fun e => absurd e.symm q)
  by_cases q3 : x1 = x3
  · subst q3; exact key h.swap.rot h'.swap.rot (n2 rfl) (fun e => absurd e q)
  have e1 := h.a1
  have e2 := h.a2
  have e3 := h.a3
  have e1' := h'.a1
  have e2' := h'.a2
  have e3' := h'.a3
  clear h h' key n1 n2 n3
  have d1 : (a - a') * (x1 + x2) + (b - b') = 0 := by grind
  have d2 : (a - a') * (x1 + x3) + (b - b') = 0 := by grind
  have ea : a = a' := by clear e1 e2 e3 e1' e2' e3'; grind
  subst ea
  have eb : b = b' := by clear e1 e2 e3 e1' e2' e3'; grind
  subst eb
  refine ⟨rfl, rfl, ?_⟩
  clear d1 d2; grind
/-- three points tell the fourth -/
theorem Par.fourth (h : Par c a b g x1 y1 x2 y2 x3 y3 x4 y4) (h' : Par c a' b' g' x1 y1 x2 y2 x3 y3 x6 y6)
    (n1 : x1 = x2 → y1 + y2 ≠ 0) (n2 : x1 = x3 → y1 + y3 ≠ 0) (n3 : x2 = x3 → y2 + y3 ≠ 0) : x4 = x6 ∧ y4 = y6 := by
  have n := h.ne
  obtain ⟨rfl, rfl, rfl⟩ := h.coef h' n1 n2 n3
  have e4 := h.a4
  have e4' := h'.a4
  have s := h.s1
  have s' := h'.s1
  clear h h'
  have : x4 = x6 := by clear e4 e4'; grind
  subst this
  exact ⟨rfl, by rw [e4, e4']⟩
end
end Crv
end EcLaw

namespace EcLaw
namespace Crv
open Classical in
section
variable {F : Type} [Lean.Grind.Field F]
def On (c : F) : Option (F × F) → Prop
  | none => True
  | some (x, y) => y * y = x * x * x + c
def pneg : Option (F × F) → Option (F × F)
  | none => none
  | some (x, y) => some (x, -y)
noncomputable def slope (x1 y1 x2 y2 : F) : F := if x1 = x2 then (3 * x1 * x1) * (2 * y1)⁻¹ else (y2 - y1) * (x2 - x1)⁻¹
noncomputable def padd : Option (F × F) → Option (F × F) → Option (F × F)
  | none, Q => Q
  | some P, none => some P
  | some (x1, y1), some (x2, y2) =>
    if x1 = x2 ∧ y1 + y2 = 0 then none else
      some (slope x1 y1 x2 y2 * slope x1 y1 x2 y2 - x1 - x2, slope x1 y1 x2 y2 * (x1 - (slope x1 y1 x2 y2 * slope x1 y1 x2 y2 - x1 - x2)) - y1)
theorem inv_mul' {a b : F} (h : b ≠ 0) : a * b⁻¹ * b = a := by grind
theorem padd_none (P : Option (F × F)) : padd P none = P := by cases P <;> rfl
theorem none_padd (P : Option (F × F)) : padd none P = P := rfl
theorem pneg_pneg (P : Option (F × F)) : pneg (pneg P) = P := by
  rcases P with _ | ⟨x, y⟩
  · rfl
  · simp only [pneg]; congr; grind
variable {c x1 y1 x2 y2 x3 y3 l m : F}
theorem on_neg {P : Option (F × F)} (h : On c P) : On c (pneg P) := by
  rcases P with _ | ⟨x, y⟩
  · trivial
  · simp only [pneg, On] at *; grind
theorem Lin.eq3 {y3' : F} (h : Lin c l m x1 y1 x2 y2 x3 y3) (e : y3 = y3') : Lin c l m x1 y1 x2 y2 x3 y3' := e ▸ h
theorem Lin.mid {y2' : F} (h : Lin c l m x1 y1 x2 y2 x3 y3) (e : y2 = y2') : Lin c l m x1 y1 x2 y2' x3 y3 := e ▸ h
theorem padd_opp (h : x1 = x2) (k : y1 + y2 = 0) : padd (some (x1, y1)) (some (x2, y2)) = none := by
  show (if _ then _ else _) = _; rw [if_pos ⟨h, k⟩]
theorem padd_some (n : ¬ (x1 = x2 ∧ y1 + y2 = 0)) : padd (some (x1, y1)) (some (x2, y2)) = some (slope x1 y1 x2 y2 * slope x1 y1 x2 y2 - x1 - x2, slope x1 y1 x2 y2 * (x1 - (slope x1 y1 x2 y2 * slope x1 y1 x2 y2 - x1 - x2)) - y1) := by
  show (if _ then _ else _) = _; rw [if_neg n]
theorem slope_same (h : x1 = x2) : slope x1 y1 x2 y2 = (3 * x1 * x1) * (2 * y1)⁻¹ := by unfold slope; rw [if_pos h]
theorem slope_ne (h : x1 ≠ x2) : slope x1 y1 x2 y2 = (y2 - y1) * (x2 - x1)⁻¹ := by unfold slope; rw [if_neg h]
theorem padd_lin (t : (2 : F) ≠ 0) (o1 : On c (some (x1, y1))) (o2 : On c (some (x2, y2))) (n : x1 = x2 → y1 + y2 ≠ 0) :
    ∃ l m x3 y3, padd (some (x1, y1)) (some (x2, y2)) = some (x3, y3) ∧ Lin c l m x1 y1 x2 y2 x3 (-y3) := by
  have e : padd (some (x1, y1)) (some (x2, y2)) = some (slope x1 y1 x2 y2 * slope x1 y1 x2 y2 - x1 - x2, slope x1 y1 x2 y2 * (x1 - (slope x1 y1 x2 y2 * slope x1 y1 x2 y2 - x1 - x2)) - y1) := by
    show (if _ then _ else _) = _; rw [if_neg (fun h => n h.1 h.2)]
  simp only [On] at o1 o2
  by_cases q : x1 = x2
  · subst q
    have n := n rfl
    have d : y1 = y2 := by grind
    subst d
    have hl : slope x1 y1 x1 y1 * (2 * y1) = 3 * x1 * x1 := by
      unfold slope; rw [if_pos rfl]; exact inv_mul' (by clear o1 o2 e; grind)
    exact ⟨_, _, _, _, e, (lin_tan o1 hl).eq3 (by grind)⟩
  · have hl : slope x1 y1 x2 y2 * (x2 - x1) = y2 - y1 := by
      unfold slope; rw [if_neg q]; exact inv_mul' (by clear o1 o2 e n; grind)
    exact ⟨_, _, _, _, e, (lin_chord o1 o2 q hl).eq3 (by grind)⟩
theorem Lin.on1 (h : Lin c l m x1 y1 x2 y2 x3 y3) : On c (some (x1, y1)) := h.rot.on3
theorem Lin.on2 (h : Lin c l m x1 y1 x2 y2 x3 y3) : On c (some (x2, y2)) := h.rot.rot.on3
theorem padd_of_lin (t : (2 : F) ≠ 0) (h : Lin c l m x1 y1 x2 y2 x3 y3) (n : x1 = x2 → y1 + y2 ≠ 0) : padd (some (x1, y1)) (some (x2, y2)) = some (x3, -y3) := by
  obtain ⟨l', m', x, y, e, k⟩ := padd_lin t h.on1 h.on2 n
  obtain ⟨rfl, rfl⟩ := h.third k t n
  rw [e]; congr; grind
theorem on_padd (t : (2 : F) ≠ 0) {P Q : Option (F × F)} (hP : On c P) (hQ : On c Q) : On c (padd P Q) := by
  rcases P with _ | ⟨x1, y1⟩
  · exact hQ
  rcases Q with _ | ⟨x2, y2⟩
  · exact hP
  by_cases n : x1 = x2 → y1 + y2 ≠ 0
  · obtain ⟨l', m', x, y, e, k⟩ := padd_lin t hP hQ n
    rw [e]; have := k.on3; simp only [On]; grind
  · have n1 : x1 = x2 := by grind
    have n2 : y1 + y2 = 0 := by grind
    rw [padd_opp n1 n2]; trivial
theorem padd_comm (t : (2 : F) ≠ 0) {P Q : Option (F × F)} (hP : On c P) (hQ : On c Q) : padd P Q = padd Q P := by
  rcases P with _ | ⟨x1, y1⟩
  · rw [padd_none]; rfl
  rcases Q with _ | ⟨x2, y2⟩
  · rfl
  by_cases n : x1 = x2 → y1 + y2 ≠ 0
  · obtain ⟨l', m', x, y, e, k⟩ := padd_lin t hP hQ n
    rw [e, padd_of_lin t k.swap (fun q => by have := n q.symm; grind)]; congr; grind
  · have n1 : x1 = x2 := by grind
    have n2 : y1 + y2 = 0 := by grind
    rw [padd_opp n1 n2, padd_opp n1.symm (by grind)]
theorem pneg_padd (t : (2 : F) ≠ 0) {P Q : Option (F × F)} (hP : On c P) (hQ : On c Q) : pneg (padd P Q) = padd (pneg P) (pneg Q) := by
  rcases P with _ | ⟨x1, y1⟩
  · rfl
  rcases Q with _ | ⟨x2, y2⟩
  · rfl
  by_cases n : x1 = x2 → y1 + y2 ≠ 0
  · obtain ⟨l', m', x, y, e, k⟩ := padd_lin t hP hQ n
    rw [e]
    simp only [pneg]
    rw [padd_of_lin t k.neg (fun q => by have := n q; grind)]; congr; grind
  · have n1 : x1 = x2 := by grind
    have n2 : y1 + y2 = 0 := by grind
    rw [padd_opp n1 n2]; simp only [pneg]; rw [padd_opp n1 (by grind)]
/-- (-X) + (X + Y) = Y -/
theorem padd_back (t : (2 : F) ≠ 0) (t3 : (3 : F) ≠ 0) (hc : c ≠ 0) {P Q : Option (F × F)} (hP : On c P) (hQ : On c Q) : padd (pneg P) (padd P Q) = Q := by
  rcases P with _ | ⟨x1, y1⟩
  · rfl
  rcases Q with _ | ⟨x2, y2⟩
  · show padd (some (x1, -y1)) (some (x1, y1)) = none
    rw [padd_opp rfl (by grind)]
  by_cases n : x1 = x2 → y1 + y2 ≠ 0
  · obtain ⟨l', m', x, y, e, k⟩ := padd_lin t hP hQ n
    rw [e]
    simp only [pneg]
    have k' : Lin c (-l') (-m') x1 (-y1) x y x2 (-y2) := k.neg.rot.rot.swap.mid (by grind)
    rw [padd_of_lin t k' (fun q => ?_)]
    · congr; grind
    · subst q
      intro z
      have z : y = y1 := by grind
      subst z
      have e1 := k.a1
      have e3 := k.a3
      have z0 : y = 0 := by grind
      subst z0
      obtain ⟨h1, h2, h3, h4, h5, h6⟩ := k
      have := (Lin.mk h1 h2 h3 h4 h5 h6).rot.rot.tan
      grind
  · have n1 : x1 = x2 := by grind
    have n2 : y1 + y2 = 0 := by grind
    rw [padd_opp n1 n2]; simp only [pneg, padd]; congr; grind
/-- opposite or not -/
theorem opp_or (P Q : Option (F × F)) : (∀ x1 y1 x2 y2, P = some (x1, y1) → Q = some (x2, y2) → x1 = x2 → y1 + y2 ≠ 0) ∨ Q = pneg P := by
  rcases P with _ | ⟨x1, y1⟩
  · exact Or.inl (fun _ _ _ _ h => by cases h)
  rcases Q with _ | ⟨x2, y2⟩
  · exact Or.inl (fun _ _ _ _ _ h => by cases h)
  by_cases n : x1 = x2 → y1 + y2 ≠ 0
  · left; intro _ _ _ _ h h'; cases h; cases h'; exact n
  · right
    have n1 : x1 = x2 := by grind
    have n2 : y2 = -y1 := by grind
    rw [n1, n2]; rfl
theorem padd_pneg (P : Option (F × F)) : padd P (pneg P) = none := by
  rcases P with _ | ⟨x1, y1⟩
  · rfl
  · exact padd_opp rfl (by grind)
variable {t1 t2 : F}
/-- the sum of three points, none of which is opposite to another, whose first two's sum isn't opposite to the third: the parabola -/
theorem par_sum (t : (2 : F) ≠ 0) (o1 : On c (some (x1, y1))) (o2 : On c (some (x2, y2))) (o3 : On c (some (x3, y3)))
    (n1 : x1 = x2 → y1 + y2 ≠ 0) (n2 : x1 = x3 → y1 + y3 ≠ 0) (n3 : x2 = x3 → y2 + y3 ≠ 0) :
    (∃ l m, Lin c l m x1 y1 x2 y2 x3 y3 ∧ padd (padd (some (x1, y1)) (some (x2, y2))) (some (x3, y3)) = none) ∨
    ∃ a b g x y, Par c a b g x1 y1 x2 y2 x3 y3 x (-y) ∧ padd (padd (some (x1, y1)) (some (x2, y2))) (some (x3, y3)) = some (x, y) := by
  obtain ⟨l, m, x5, y5, e, k⟩ := padd_lin t o1 o2 n1
  by_cases n4 : x5 = x3 → y5 + y3 ≠ 0
  · have o5 : On c (some (x5, y5)) := by rw [← e]; exact on_padd t o1 o2
    obtain ⟨l', m', x, y, e', k'⟩ := padd_lin t o5 o3 n4
    right
    have kne : l + l' ≠ 0 := by
      intro z
      have hl : l' = -l := by grind
      subst hl
      have a3 := k.a3
      have b1 := k'.a1
      have hm : m' = -m := by grind
      subst hm
      have b2 := k'.a2
      have a1 := k.a1
      have a2 := k.a2
      have p1 : (x3 - x1) * (x3 - x2) * (x3 - x5) = 0 := by
        obtain ⟨h1, h2, h3, h4, h5, h6⟩ := k
        have := k'.on2
        simp only [On] at this
        clear o1 o2 o3 o5 a1 a2 a3 n1 n2 n3 n4 e e'
        grind
      have p2 : x3 ≠ x1 := by intro q; subst q; exact n2 rfl (by grind)
      have p3 : x3 ≠ x2 := by intro q; subst q; exact n3 rfl (by grind)
      have p4 : x3 = x5 := by clear k k' o1 o2 o3 o5 a1 a2 a3 n1 n2 n3 n4 e e' b1 b2; grind
      subst p4
      have n4 := n4 rfl
      -- x3 a twofold root: tangent
      have d1 := k'.tan
      have y5 : y5 = y3 := by grind
      subst y5
      obtain ⟨h1, h2, h3, h4, h5, h6⟩ := k
      clear o1 o2 o3 o5 n1 n2 n3 e e'
      grind
    have ha : (l + l')⁻¹ * (l + l') = 1 := by clear k k' o1 o2 o3 o5 n1 n2 n3 n4 e e'; grind
    refine ⟨_, _, _, x, y, par_of k k' ha, ?_⟩
    rw [e, e']
  · left
    have n5 : x5 = x3 := by grind
    have n6 : y3 = -y5 := by grind
    subst n5; subst n6
    exact ⟨l, m, k, by rw [e]; exact padd_opp rfl (by grind)⟩
theorem padd_assoc (t : (2 : F) ≠ 0) (t3 : (3 : F) ≠ 0) (hc : c ≠ 0) {P Q R : Option (F × F)} (hP : On c P) (hQ : On c Q) (hR : On c R) : padd (padd P Q) R = padd P (padd Q R) := by
  rcases opp_or P Q with n1 | rfl
  rotate_left
  · rw [padd_pneg, none_padd]
    have := padd_back t t3 hc (on_neg hP) hR
    rw [pneg_pneg] at this
    exact this.symm
  rcases opp_or Q R with n2 | rfl
  rotate_left
  · rw [padd_pneg, padd_none]
    rw [padd_comm t (on_padd t hP hQ) (on_neg hQ), padd_comm t hP hQ]
    exact padd_back t t3 hc hQ hP
  rcases opp_or P R with n3 | rfl
  rotate_left
  · rw [padd_comm t (on_padd t hP hQ) (on_neg hP), padd_back t t3 hc hP hQ, padd_comm t hQ (on_neg hP)]
    have := padd_back t t3 hc (on_neg hP) hQ
    rw [pneg_pneg] at this
    exact this.symm
  rcases P with _ | ⟨x1, y1⟩
  · rfl
  rcases Q with _ | ⟨x2, y2⟩
  · rw [padd_none, none_padd]
  rcases R with _ | ⟨x3, y3⟩
  · rw [padd_none, padd_none]
  have n1 := n1 _ _ _ _ rfl rfl
  have n2 := n2 _ _ _ _ rfl rfl
  have n3 := n3 _ _ _ _ rfl rfl
  rw [padd_comm t hP (on_padd t hQ hR)]
  have n1' : x2 = x1 → y2 + y1 ≠ 0 := fun q => by have := n1 q.symm; grind
  have n3' : x3 = x1 → y3 + y1 ≠ 0 := fun q => by have := n3 q.symm; grind
  rcases par_sum t hP hQ hR n1 n3 n2 with ⟨l, m, k, e⟩ | ⟨a, b, g, x, y, k, e⟩ <;> rcases par_sum t hQ hR hP n2 n1' n3' with ⟨l', m', k', e'⟩ | ⟨a', b', g', x', y', k', e'⟩
  · rw [e, e']
  · rw [padd_of_lin t k.rot n2, padd_opp rfl (by grind)] at e'
    cases e'
  · rw [padd_of_lin t k'.rot.rot n1, padd_opp rfl (by grind)] at e
    cases e
  · rw [e, e']
    obtain ⟨rfl, q⟩ := k.fourth k'.rot.rot n1 n3 n2
    congr; grind
end
end Crv
end EcLaw

namespace EcLaw
namespace Crv
section
variable {F : Type} [Lean.Grind.Field F]
noncomputable def mulA : Nat → Option (F × F) → Int → Option (F × F)
  | 0, _, _ => none
  | k + 1, P, n => if n = 0 then none else if n = 1 then P else
      if Int.fmod n 2 = 0 then mulA k (padd P P) (Int.fdiv n 2) else padd (mulA k (padd P P) (Int.fdiv n 2)) P
noncomputable def timesA : Nat → Option (F × F) → Option (F × F) → Int → Option (F × F)
  | 0, D, _, _ => D
  | k + 1, D, P, n => if 0 < n then timesA k (if Int.fmod n 2 = 1 then padd D P else D) (padd P P) (Int.fdiv n 2) else D
variable {c : F}
theorem on_mulA (t : (2 : F) ≠ 0) : ∀ (k : Nat) {P : Option (F × F)} (n : Int), On c P → On c (mulA k P n)
  | 0, _, _, _ => trivial
  | k + 1, P, n, h => by
    unfold mulA
    split
    · trivial
    split
    · exact h
    split
    · exact on_mulA t k _ (on_padd t h h)
    · exact on_padd t (on_mulA t k _ (on_padd t h h)) h
theorem timesA_0 (k : Nat) (D P : Option (F × F)) : timesA k D P 0 = D := by
  cases k with
  | zero => rfl
  | succ k => unfold timesA; rw [if_neg (by decide)]
theorem timesA_eq (t : (2 : F) ≠ 0) (t3 : (3 : F) ≠ 0) (hc : c ≠ 0) : ∀ (k : Nat) {D P : Option (F × F)} (n : Int), On c D → On c P → 0 ≤ n → n < 2 ^ k → timesA k D P n = padd D (mulA k P n)
  | 0, D, P, n, _, _, _, _ => by rw [mulA, padd_none, timesA]
  | k + 1, D, P, n, hD, hP, h0, h1 => by
    have e : (2 : Int) ^ (k + 1) = 2 * 2 ^ k := by rw [Int.pow_succ]; omega
    rw [e] at h1
    have o2 := on_padd t hP hP
    have q0 : Int.fdiv n 2 = n / 2 := Int.fdiv_eq_ediv_of_nonneg _ (by decide)
    have q1 : Int.fmod n 2 = n % 2 := Int.fmod_eq_emod_of_nonneg _ (by decide)
    unfold mulA timesA
    rw [q0, q1]
    by_cases z : n = 0
    · rw [if_neg (by omega), if_pos z, padd_none]
    rw [if_pos (by omega), if_neg z]
    by_cases z1 : n = 1
    · subst z1
      rw [if_pos rfl, if_pos (by decide), timesA_eq t t3 hc k _ (on_padd t hD hP) o2 (by omega) (by omega)]
      show padd (padd D P) (mulA k _ 0) = _
      have : mulA k (padd P P) 0 = none := by
        cases k with
        | zero => rfl
        | succ k => unfold mulA; rw [if_pos rfl]
      rw [this, padd_none]
    rw [if_neg z1]
    by_cases z2 : n % 2 = 0
    · rw [if_pos z2, if_neg (by omega), timesA_eq t t3 hc k _ hD o2 (by omega) (by omega)]
    · rw [if_neg z2, if_pos (by omega), timesA_eq t t3 hc k _ (on_padd t hD hP) o2 (by omega) (by omega)]
      have om := on_mulA (c := c) t k (n / 2) o2
      rw [padd_assoc t t3 hc hD hP om, padd_comm t hP om]
end
end Crv
end EcLaw

namespace EcLaw
namespace Nth
def Pr (p : Nat) : Prop := 1 < p ∧ ∀ d, d ∣ p → d = 1 ∨ d = p
theorem mod_iff {n x y : Nat} (h : x ≤ y) : x % n = y % n ↔ n ∣ y - x := by
  constructor
  · intro e; exact Nat.dvd_of_mod_eq_zero (Nat.sub_mod_eq_zero_of_mod_eq e.symm)
  · rintro ⟨k, e⟩
    have : y = x + n * k := by omega
    rw [this, Nat.add_mul_mod_self_left]
theorem Pr.cop {p a : Nat} (h : Pr p) (n : ¬ p ∣ a) : Nat.gcd p a = 1 := by
  rcases h.2 _ (Nat.gcd_dvd_left p a) with e | e
  · exact e
  · exact absurd (e ▸ Nat.gcd_dvd_right p a) n
theorem Pr.mul {p a b : Nat} (h : Pr p) (d : p ∣ a * b) : p ∣ a ∨ p ∣ b := by
  by_cases n : p ∣ a
  · exact Or.inl n
  · exact Or.inr (Nat.Coprime.dvd_of_dvd_mul_left (h.cop n) d)
theorem perm_of {l l' : List Nat} (h : l.Nodup) (s : ∀ x ∈ l, x ∈ l') (e : l.length = l'.length) : List.Perm l l' := by
  induction l generalizing l' with
  | nil => cases l' with
    | nil => exact .nil
    | cons => cases e
  | cons a l ih =>
    have ha := s a (.head _)
    rw [List.nodup_cons] at h
    have p := List.perm_cons_erase ha
    refine (List.Perm.cons a (ih h.2 (fun x hx => ?_) ?_)).trans p.symm
    · have := p.mem_iff.mp (s x (.tail _ hx))
      rcases List.mem_cons.mp this with q | q
      · exact absurd (q ▸ hx) h.1
      · exact q
    · have := p.length_eq
      simp only [List.length_cons] at this e
      omega
def prod (l : List Nat) : Nat := l.foldr (· * ·) 1
theorem prod_perm {l l' : List Nat} (h : List.Perm l l') : prod l = prod l' := by
  induction h with
  | nil => rfl
  | cons a _ ih => show _ * prod _ = _ * prod _; rw [ih]
  | swap a b l => show _ * (_ * prod _) = _ * (_ * prod _); rw [Nat.mul_left_comm]
  | trans _ _ h1 h2 => exact h1.trans h2
theorem prod_map (a p : Nat) (l : List Nat) : prod (l.map (fun x => a * x % p)) % p = a ^ l.length * prod l % p := by
  induction l with
  | nil => show 1 % p = 1 * 1 % p; rfl
  | cons b l ih =>
    show (a * b % p * prod (l.map _)) % p = a ^ (l.length + 1) * (b * prod l) % p
    rw [Nat.mul_mod, ih, Nat.mod_mod, ← Nat.mul_mod, Nat.pow_succ]
    congr 1
    ac_rfl
theorem prod_not {p : Nat} (h : Pr p) {l : List Nat} (n : ∀ x ∈ l, ¬ p ∣ x) : ¬ p ∣ prod l := by
  induction l with
  | nil => intro d; have := Nat.le_of_dvd (m := p) (n := 1) (by decide) d; have := h.1; omega
  | cons a l ih =>
    intro d
    rcases h.mul d with q | q
    · exact n a (.head _) q
    · exact ih (fun x hx => n x (.tail _ hx)) q
/-- of Fermat -/
theorem fermat {p a : Nat} (h : Pr p) (n : ¬ p ∣ a) : a ^ (p - 1) % p = 1 := by
  have h1 := h.1
  let l := (List.range (p - 1)).map (· + 1)
  have hl : ∀ x, x ∈ l ↔ 0 < x ∧ x < p := by
    intro x
    simp only [l, List.mem_map, List.mem_range]
    constructor
    · rintro ⟨y, hy, rfl⟩; omega
    · rintro ⟨hx, hy⟩; exact ⟨x - 1, by omega, by omega⟩
  have hn : l.Nodup := by
    have := List.nodup_range (n := p - 1)
    exact List.Pairwise.map _ (fun a b (h : a ≠ b) => by show a + 1 ≠ b + 1; omega) this
  have hlen : l.length = p - 1 := by simp [l]
  have inj : ∀ x ∈ l, ∀ y ∈ l, x ≠ y → a * x % p ≠ a * y % p := by
    have aux : ∀ x ∈ l, ∀ y ∈ l, x < y → a * x % p ≠ a * y % p := by
      intro x hx y hy q e
      have d : p ∣ a * y - a * x := (mod_iff (Nat.mul_le_mul_left a (Nat.le_of_lt q))).mp e
      rw [← Nat.mul_sub] at d
      rcases h.mul d with d | d
      · exact n d
      · have := Nat.le_of_dvd (by omega) d
        have := (hl y).mp hy
        omega
    intro x hx y hy q
    rcases Nat.lt_or_gt_of_ne q with q | q
    · exact aux x hx y hy q
    · exact (aux y hy x hx q).symm
  have hm : (l.map (fun x => a * x % p)).Nodup := by
    have : l.Pairwise (fun x y => x ∈ l ∧ y ∈ l ∧ x ≠ y) := List.Pairwise.imp_of_mem (fun hx hy q => ⟨hx, hy, q⟩) hn
    exact List.Pairwise.map _ (fun x y q => inj x q.1 y q.2.1 q.2.2) this
  have P := perm_of hm (l' := l) (fun x hx => by
    obtain ⟨y, hy, rfl⟩ := List.mem_map.mp hx
    refine (hl _).mpr ⟨Nat.pos_of_ne_zero fun z => ?_, Nat.mod_lt _ (by omega)⟩
    rcases h.mul (Nat.dvd_of_mod_eq_zero z) with d | d
    · exact n d
    · have := (hl y).mp hy
      have := Nat.le_of_dvd this.1 d
      omega) (by simp)
  have e := prod_map a p l
  rw [prod_perm P, hlen] at e
  have np : ¬ p ∣ prod l := prod_not h fun x hx d => by
    have := (hl x).mp hx
    have := Nat.le_of_dvd this.1 d
    omega
  have pos : 0 < a ^ (p - 1) := by
    refine Nat.pow_pos (Nat.pos_of_ne_zero fun z => n (z ▸ Nat.dvd_zero p))
  have d : p ∣ a ^ (p - 1) * prod l - 1 * prod l := (mod_iff (Nat.mul_le_mul_right _ pos)).mp (by rw [Nat.one_mul]; exact e)
  rw [← Nat.sub_mul] at d
  have d := (h.mul d).resolve_right np
  have : 1 % p = a ^ (p - 1) % p := (mod_iff pos).mpr d
  rw [← this, Nat.mod_eq_of_lt h1]
/-- a prime that divides, not beyond the root -/
theorem prime_of : ∀ (n : Nat), 1 < n → Pr n ∨ ∃ d, Pr d ∧ d ∣ n ∧ d * d ≤ n := by
  intro n
  induction n using Nat.strongRecOn with
  | ind n ih =>
    intro h
    by_cases q : Pr n
    · exact Or.inl q
    · right
      have : ∃ d, d ∣ n ∧ d ≠ 1 ∧ d ≠ n := by
        apply Classical.byContradiction
        intro k
        exact q ⟨h, fun d hd => Classical.byContradiction fun z => k ⟨d, hd, by omega, by omega⟩⟩
      obtain ⟨d, ⟨e, rfl⟩, d1, d2⟩ := this
      have key : ∀ d e, 1 < d → d ≤ e → d < d * e → (∀ m, m < d * e → 1 < m → Pr m ∨ ∃ d, Pr d ∧ d ∣ m ∧ d * d ≤ m) → ∃ d', Pr d' ∧ d' ∣ d * e ∧ d' * d' ≤ d * e := by
        intro d e hd hde hlt ih
        have le : d * d ≤ d * e := Nat.mul_le_mul_left d hde
        rcases ih d hlt hd with k | ⟨f, k, ⟨g, rfl⟩, m⟩
        · exact ⟨d, k, ⟨e, rfl⟩, le⟩
        · refine ⟨f, k, ⟨g * e, by rw [Nat.mul_assoc]⟩, Nat.le_trans m ?_⟩
          exact Nat.le_trans (Nat.le_mul_of_pos_right _ (by omega)) le
      have d0 : d ≠ 0 := fun z => by subst z; simp at h
      have e0 : e ≠ 0 := fun z => by subst z; simp at h
      have e1 : e ≠ 1 := fun z => by subst z; simp at d2
      have l1 : d < d * e := by have := Nat.mul_lt_mul_of_pos_left (show 1 < e by omega) (show 0 < d by omega); omega
      have l2 : e < e * d := by have := Nat.mul_lt_mul_of_pos_left (show 1 < d by omega) (show 0 < e by omega); omega
      rcases Nat.le_total d e with le | le
      · exact key d e (by omega) le l1 ih
      · rw [Nat.mul_comm] at ih ⊢
        exact key e d (by omega) le l2 ih
theorem pow_gcd {b d : Nat} : ∀ i j, b ^ i % d = 1 % d → b ^ j % d = 1 % d → b ^ (Nat.gcd i j) % d = 1 % d := by
  intro i j
  induction i, j using Nat.gcd.induction with
  | H0 j => intro _ h; rw [Nat.gcd_zero_left]; exact h
  | H1 i j hi ih =>
    intro h1 h2
    rw [Nat.gcd_rec]
    refine ih ?_ h1
    have e : b ^ j = (b ^ i) ^ (j / i) * b ^ (j % i) := by rw [← Nat.pow_mul, ← Nat.pow_add, Nat.div_add_mod]
    have : (b ^ i) ^ (j / i) % d = 1 % d := by
      rw [Nat.pow_mod, h1, ← Nat.pow_mod, Nat.one_pow]
    rw [e, Nat.mul_mod, this, ← Nat.mul_mod, Nat.one_mul] at h2
    exact h2
/-- of Pocklington: a prime that divides n leaves 1 by q -/
theorem pock {n q m a d : Nat} (hq : Pr q) (hd : Pr d) (dn : d ∣ n) (e : n - 1 = q * m) (h1 : a ^ (n - 1) % n = 1) (h2 : Nat.gcd (a ^ m % n + n - 1) n = 1) (hn : 1 < n) : q ∣ d - 1 := by
  have hd1 := hd.1
  have modd : ∀ x y, x % n = y % n → x % d = y % d := fun x y h => by
    rw [← Nat.mod_mod_of_dvd x dn, h, Nat.mod_mod_of_dvd y dn]
  have k1 : a ^ (n - 1) % d = 1 % d := modd _ _ (by rw [h1, Nat.mod_eq_of_lt hn])
  have nd : ¬ d ∣ a := by
    intro z
    have : d ∣ a ^ (n - 1) := Nat.dvd_trans z (Nat.dvd_trans (Nat.dvd_refl a) ⟨a ^ (n - 1 - 1), by rw [← Nat.pow_succ']; congr 1; omega⟩)
    rw [Nat.mod_eq_zero_of_dvd this, Nat.mod_eq_of_lt hd1] at k1
    cases k1
  have k2 : (a ^ m) ^ q % d = 1 % d := by rw [← Nat.pow_mul, Nat.mul_comm, ← e]; exact k1
  have k3 : (a ^ m) ^ (d - 1) % d = 1 % d := by
    rw [← Nat.pow_mul, Nat.mul_comm, Nat.pow_mul, Nat.pow_mod, fermat hd nd, Nat.one_pow]
  have k := pow_gcd _ _ k2 k3
  rcases hq.2 _ (Nat.gcd_dvd_left q (d - 1)) with g | g
  · rw [g, Nat.pow_one] at k
    have c1 : d ∣ a ^ m % n + n - 1 := by
      have z : (a ^ m % n + n) % d = 1 % d := by
        rw [Nat.add_mod, Nat.mod_mod_of_dvd _ dn, k, Nat.mod_eq_zero_of_dvd dn, Nat.add_zero, Nat.mod_mod]
      exact (mod_iff (by omega)).mp z.symm
    have := Nat.dvd_gcd c1 dn
    rw [h2] at this
    have := Nat.le_of_dvd (by decide) this
    omega
  · rw [← g]; exact Nat.gcd_dvd_right _ _
theorem pock1 {n q m a : Nat} (hq : Pr q) (e : n - 1 = q * m) (h1 : a ^ (n - 1) % n = 1) (h2 : Nat.gcd (a ^ m % n + n - 1) n = 1) (hn : 1 < n) (hs : n ≤ q * q) : Pr n := by
  rcases prime_of n hn with k | ⟨d, hd, dn, dd⟩
  · exact k
  · have := Nat.le_of_dvd (by have := hd.1; omega) (pock hq hd dn e h1 h2 hn)
    have : q < d := by have := hd.1; omega
    have := Nat.mul_lt_mul_of_lt_of_le this (Nat.le_of_lt this) (by have := hq.1; omega)
    omega
theorem pock2 {n q m a q' m' a' : Nat} (hq : Pr q) (e : n - 1 = q * m) (h1 : a ^ (n - 1) % n = 1) (h2 : Nat.gcd (a ^ m % n + n - 1) n = 1)
    (hq' : Pr q') (e' : n - 1 = q' * m') (h1' : a' ^ (n - 1) % n = 1) (h2' : Nat.gcd (a' ^ m' % n + n - 1) n = 1) (hc : Nat.gcd q q' = 1) (hn : 1 < n) (hs : n ≤ (q * q') * (q * q')) : Pr n := by
  rcases prime_of n hn with k | ⟨d, hd, dn, dd⟩
  · exact k
  · have p1 := pock hq hd dn e h1 h2 hn
    have p2 := pock hq' hd dn e' h1' h2' hn
    have := Nat.le_of_dvd (by have := hd.1; omega) (Nat.Coprime.mul_dvd_of_dvd_of_dvd hc p1 p2)
    have : q * q' < d := by have := hd.1; omega
    have := Nat.mul_lt_mul_of_lt_of_le this (Nat.le_of_lt this) (by have := hd.1; omega)
    omega
theorem trial {n : Nat} (k : Nat) (hn : 1 < n) (h : ∀ d, d < k → 1 < d → n % d ≠ 0) (hk : n < k * k) : Pr n := by
  rcases prime_of n hn with q | ⟨d, hd, dn, dd⟩
  · exact q
  · refine absurd (Nat.mod_eq_zero_of_dvd dn) (h d ?_ hd.1)
    exact Classical.byContradiction fun z => by
      have : k * k ≤ d * d := Nat.mul_le_mul (by omega) (by omega)
      omega
/-- powers by squaring -/
noncomputable def pw (n a : Nat) : Nat → Nat → Nat
  | 0, _ => 1 % n
  | k + 1, e => bif Nat.beq e 0 then 1 % n else (fun h => bif Nat.beq (e % 2) 0 then h * h % n else h * h % n * a % n) (pw n a k (e / 2))
theorem pw_eq (n a : Nat) : ∀ k e, e < 2 ^ k → pw n a k e = a ^ e % n
  | 0, e, h => by
    have : e = 0 := by simpa using h
    subst this; rfl
  | k + 1, e, h => by
    unfold pw
    by_cases z : e = 0
    · subst z; rfl
    have hb : Nat.beq e 0 = false := by cases e with | zero => exact absurd rfl z | succ => rfl
    have ih := pw_eq n a k (e / 2) (by rw [Nat.pow_succ] at h; omega)
    rw [hb, cond_false, ih]
    by_cases q : e % 2 = 0
    · have hb2 : Nat.beq (e % 2) 0 = true := by rw [q]; rfl
      show (bif Nat.beq (e % 2) 0 then _ else _) = _
      rw [hb2, cond_true, ← Nat.mul_mod, ← Nat.pow_add]
      congr 2; omega
    · have hb2 : Nat.beq (e % 2) 0 = false := by have : e % 2 = 1 := by omega
                                                 rw [this]; rfl
      show (bif Nat.beq (e % 2) 0 then _ else _) = _
      rw [hb2, cond_false, ← Nat.mul_mod, ← Nat.pow_add, Nat.mod_mul_mod, ← Nat.pow_succ]
      congr 2; omega
end Nth
end EcLaw

namespace EcLaw
namespace Nth
theorem pockA {n q m a : Nat} (k : Nat) (hk : n ≤ 2 ^ k) (hq : Pr q) (e : n - 1 = q * m) (h1 : pw n a k (n - 1) = 1) (h2 : Nat.gcd (pw n a k m + n - 1) n = 1) (hn : 1 < n) (hs : n ≤ q * q) : Pr n := by
  have hm : m ≤ n - 1 := by rw [e]; exact Nat.le_mul_of_pos_left _ (by have := hq.1; omega)
  rw [pw_eq n a k _ (by omega)] at h1 h2
  exact pock1 hq e h1 h2 hn hs
theorem pockB {n q m a q' m' a' : Nat} (k : Nat) (hk : n ≤ 2 ^ k) (hq : Pr q) (e : n - 1 = q * m) (h1 : pw n a k (n - 1) = 1) (h2 : Nat.gcd (pw n a k m + n - 1) n = 1)
    (hq' : Pr q') (e' : n - 1 = q' * m') (h1' : pw n a' k (n - 1) = 1) (h2' : Nat.gcd (pw n a' k m' + n - 1) n = 1) (hc : Nat.gcd q q' = 1) (hn : 1 < n) (hs : n ≤ (q * q') * (q * q')) : Pr n := by
  have hm : m ≤ n - 1 := by rw [e]; exact Nat.le_mul_of_pos_left _ (by have := hq.1; omega)
  have hm' : m' ≤ n - 1 := by rw [e']; exact Nat.le_mul_of_pos_left _ (by have := hq'.1; omega)
  rw [pw_eq n a k _ (by omega)] at h1 h2
  rw [pw_eq n a' k _ (by omega)] at h1' h2'
  exact pock2 hq e h1 h2 hq' e' h1' h2' hc hn hs
theorem p_0 : Pr 421987 := trial 650 (by decide) (by decide +kernel) (by decide)
theorem pr_19 : Pr 19 := trial 5 (by decide) (by decide +kernel) (by decide)
theorem p_2 : Pr 13327 := trial 116 (by decide) (by decide +kernel) (by decide)
theorem p_3 : Pr 911 := trial 31 (by decide) (by decide +kernel) (by decide)
theorem p_4 : Pr 3557 := trial 60 (by decide) (by decide +kernel) (by decide)
theorem p_5 : Pr 13090036741 := pockA (q := 421987) (m := 31020) (a := 2) 34 (by decide +kernel) p_0 (by decide +kernel) (by decide +kernel) (by decide +kernel) (by decide +kernel) (by decide +kernel)
theorem p_6 : Pr 3819663927398918131021 := pockB (q := 13090036741) (m := 291799328220) (a := 2) (q' := 19) (m' := 201034943547311480580) (a' := 2) 72 (by decide +kernel) p_5 (by decide +kernel) (by decide +kernel) (by decide +kernel) pr_19 (by decide +kernel) (by decide +kernel) (by decide +kernel) (by decide +kernel) (by decide +kernel) (by decide +kernel)
theorem p_7 : Pr 1125266252156850182658904441386709967 := pockA (q := 3819663927398918131021) (m := 294598235223046) (a := 2) 120 (by decide +kernel) p_6 (by decide +kernel) (by decide +kernel) (by decide +kernel) (by decide +kernel) (by decide +kernel)
theorem p_8 : Pr 15778400344354997994418419698270088123916926905054652752758194827714659 := pockA (q := 1125266252156850182658904441386709967) (m := 14021926201120671579994175730661374) (a := 2) 234 (by decide +kernel) p_7 (by decide +kernel) (by decide +kernel) (by decide +kernel) (by decide +kernel) (by decide +kernel)
theorem pr_P381 : Pr 4002409555221667393417789825735904156556882819939007885332058136124031650490837864442687629129015664037894272559787 := pockA (q := 15778400344354997994418419698270088123916926905054652752758194827714659) (m := 253663835868735594330404923636534084567099854) (a := 2) 381 (by decide +kernel) p_8 (by decide +kernel) (by decide +kernel) (by decide +kernel) (by decide +kernel) (by decide +kernel)
theorem p_10 : Pr 1263766531 := pockB (q := 911) (m := 1387230) (a := 2) (q' := 3557) (m' := 355290) (a' := 2) 31 (by decide +kernel) p_3 (by decide +kernel) (by decide +kernel) (by decide +kernel) p_4 (by decide +kernel) (by decide +kernel) (by decide +kernel) (by decide +kernel) (by decide +kernel) (by decide +kernel)
theorem p_11 : Pr 35385462869 := pockA (q := 1263766531) (m := 28) (a := 2) 36 (by decide +kernel) p_10 (by decide +kernel) (by decide +kernel) (by decide +kernel) (by decide +kernel) (by decide +kernel)
theorem p_12 : Pr 2480874801745591 := pockA (q := 35385462869) (m := 70110) (a := 2) 52 (by decide +kernel) p_11 (by decide +kernel) (by decide +kernel) (by decide +kernel) (by decide +kernel) (by decide +kernel)
theorem p_13 : Pr 173171039 := pockA (q := 13327) (m := 12994) (a := 2) 28 (by decide +kernel) p_2 (by decide +kernel) (by decide +kernel) (by decide +kernel) (by decide +kernel) (by decide +kernel)
theorem p_14 : Pr 13427688667394608761327070753331941386769 := pockB (q := 2480874801745591) (m := 5412481378724403979982448) (a := 2) (q' := 173171039) (m' := 77540036399473290457806115913712) (a' := 2) 134 (by decide +kernel) p_12 (by decide +kernel) (by decide +kernel) (by decide +kernel) p_13 (by decide +kernel) (by decide +kernel) (by decide +kernel) (by decide +kernel) (by decide +kernel) (by decide +kernel)
theorem pr_P254 : Pr 21888242871839275222246405745257275088696311157297823662689037894645226208583 := pockA (q := 13427688667394608761327070753331941386769) (m := 1630082690626329392154177744477557478) (a := 2) 254 (by decide +kernel) p_14 (by decide +kernel) (by decide +kernel) (by decide +kernel) (by decide +kernel) (by decide +kernel)
theorem pr_7 : Pr 7 := trial 3 (by decide) (by decide +kernel) (by decide)
theorem pr_11 : Pr 11 := trial 4 (by decide) (by decide +kernel) (by decide)
theorem pr_23 : Pr 23 := trial 5 (by decide) (by decide +kernel) (by decide)
theorem pr_31 : Pr 31 := trial 6 (by decide) (by decide +kernel) (by decide)
theorem pr_43 : Pr 43 := trial 7 (by decide) (by decide +kernel) (by decide)
theorem pr_251 : Pr 251 := trial 16 (by decide) (by decide +kernel) (by decide)
theorem pr_1019 : Pr 1019 := trial 32 (by decide) (by decide +kernel) (by decide)
theorem pr_65519 : Pr 65519 := trial 256 (by decide) (by decide +kernel) (by decide)
theorem pr_65423 : Pr 65423 := trial 256 (by decide) (by decide +kernel) (by decide)
end Nth
end EcLaw

open PySem PySem.W PyProof.Rows
namespace EcLaw
def vw : Program :=
  { PySem.Challenge.rw_lh0030_01.row.prog with main := { PySem.Challenge.rw_lh0030_01.row.prog.main with body := [0, 3, 5, 7, 9, 11, 13, 15, 17, 19, 21, 23, 24, 25, 26, 27, 28, 29, 30, 31, 32, 33, 34, 35, 36, 37, 38, 40, 41, 42, 43, 44, 45, 46, 47, 48, 49, 50, 51].filterMap fun i => PySem.Challenge.rw_lh0030_01.row.prog.main.body[i]? } }

/-- The run of the text upon a tree in the heap's place. -/
noncomputable def treeRun (p : Program) (w : World) (m : Nat) (ann : Option Value) : Nat → SharedT → Thread → Option SharedT
  | 0, _, _ => none
  | n + 1, s, t => match through t with
    | true => some s
    | false => match Fast.tw6613529449190102663 m ann t with
      | false => none
      | true => match Fast.tw10156331382660048174 (Fast.tw11892475500146522536 treeTable) p w s t with
        | some x => treeRun p w m ann n x.1 x.2
        | none => none

theorem treeRun_top {p : Program} {w : World} {m : Nat} {ann : Option Value} : ∀ (n : Nat) (s r : SharedT) (t : Thread),
    treeRun p w m ann n s t = some r → topRun treeTable p w m ann n s.abs t = some r.abs := by
  intro n
  induction n with
  | zero => intro s r t h; cases h
  | succ n ih =>
    intro s r t h
    rw [treeRun, ← Fast.te6613529449190102663, ← Fast.te10156331382660048174, ← Fast.te11892475500146522536] at h
    rw [topRun]
    cases e1 : through t with
    | true => rw [e1] at h; cases h; rfl
    | false =>
      rw [e1] at h
      cases e2 : stepOk m ann t with
      | false => rw [e2] at h; cases h
      | true =>
        rw [e2] at h
        cases e3 : stepT (denote treeTable) p w s t with
        | none => rw [e3] at h; cases h
        | some x => rw [e3] at h; rw [stepT_spec (t' := x.2) (s' := x.1) e3]; exact ih _ _ _ h

noncomputable def planted (l : List Obj) : BT := (l.foldl (fun (x : BT × Nat) o => (x.1.ins x.2 o, x.2 + 1)) (.nil, 0)).1
noncomputable def soil (P : Params) (os : OsState) : SharedT := ⟨planted (boot_heap P).objs.toList, 11, (boot_heap P).life, #[], boot_drawn, boot_toks, os⟩
theorem soil_is (P : Params) (os : OsState) : (soil P os).abs = ⟨boot_heap P, #[], boot_drawn, boot_toks, os⟩ := by kernel_rfl
theorem soil_from (p : Program) (w : World) (N : Nat) (os : OsState) : topFrom treeTable p w N ⟨boot_heap w.params, #[], boot_drawn, boot_toks, os⟩ =
    (topRun treeTable p w 11 (some (.ref 6)) N ⟨boot_heap w.params, #[], boot_drawn, boot_toks, os⟩ (topStub p)).bind fun s₁ =>
      match staticsOk (importedModules p.main.body) (boot_heap w.params) s₁.heap && namesBound p s₁.heap && gensDone s₁ && laidKept (boot_heap w.params) s₁.heap with
      | true => some s₁
      | false => none := by kernel_rfl

theorem left_tree {p q : Program} {loose : List Str} {Xt : Shared → Bool} {α : Type} {Yf : Shared → α} {Ya : World → α} {N : Nat}
    (op : ∀ w : World, (fencedOpening treeTable p w N).map (fun s => (s.heap, s.gens, s.drawn, s.toks)) = some (boot_heap w.params, #[], boot_drawn, boot_toks))
    (run : ∀ (w : World) (os : OsState), (treeRun p w 11 (some (.ref 6)) N (soil w.params os) (topStub p)).map
        (fun s => (staticsOk (importedModules p.main.body) (boot_heap w.params) s.abs.heap && namesBound p s.abs.heap && gensDone s.abs && laidKept (boot_heap w.params) s.abs.heap,
          Fast.tw4187177175401517315 q loose (importedModules p.main.body) Xt true s.abs, Yf s.abs)) = some (true, openGood q loose, Ya w)) : LeftO p q loose Xt Yf Ya N := by
  intro w
  obtain ⟨s, hs, e⟩ := Option.map_eq_some_iff.mp (op w)
  obtain ⟨h, gs, d, k, os⟩ := s
  simp only [Prod.mk.injEq] at e
  obtain ⟨rfl, rfl, rfl, rfl⟩ := e
  obtain ⟨r, hr, er⟩ := Option.map_eq_some_iff.mp (run w os)
  rw [← Fast.te4187177175401517315] at er
  have l1 := congrArg Prod.fst er
  have l2 := congrArg Prod.snd er
  dsimp only at l1 l2
  have top := treeRun_top N _ _ _ hr
  rw [soil_is] at top
  unfold openEnds
  rw [hs]
  show (topFrom treeTable p w N _).map _ = _
  rw [soil_from, top]
  show Option.map _ (match _ with | true => some r.abs | false => none) = _
  rw [l1]
  exact congrArg some l2
theorem law_said : PySem.Challenge.rw_lh0030_01.wellSaid = true := by
  unfold OpenLaw.wellSaid OpenRow.wellSaid OpenRow.partSaid looksOpen
  repeat' with_reducible apply look_both
  all_goals (as_aux_lemma =>
    try rewrite [Fast.te8377067652309620493]
    try rewrite [Fast.te8326940854005059898]
    try rewrite [Fast.te17119622794617984870]
    try rewrite [Fast.te6984425678791042302]
    try rewrite [Fast.te8179353310426384613]
    try rewrite [Fast.te16286561074155671207]
    try rewrite [Fast.te797321630700447069]
    try rewrite [Fast.te9558739934217749035]
    try rewrite [Fast.te18344453789297297638]
    try rewrite [Fast.te10792542408131684335]
    try rewrite [Fast.te3471404346716756564]
    try rewrite [Fast.te13343964577679436407]
    try rewrite [Fast.te5923862056798008813]
    kernel_rfl)
local macro_rules | `(tactic| o_law) => `(tactic| refine holds_law (l := PySem.Challenge.rw_lh0030_01) law_said fun said => ?_)
abbrev rowL : OpenRow := PySem.Challenge.rw_lh0030_01.row
def looseHead : List Str := [Str.ofString "is_inf_optimized_curve", Str.ofString "is_on_curve_optimized_curve",
      Str.ofString "double_optimized_curve", Str.ofString "add_optimized_curve",
      Str.ofString "multiply_optimized_curve", Str.ofString "eq_optimized_curve",
      Str.ofString "normalize_optimized_curve", Str.ofString "neg_optimized_curve", Str.ofString "FQ",
      Str.ofString "is_inf_optimized_curve2", Str.ofString "is_on_curve_optimized_curve2",
      Str.ofString "double_optimized_curve2", Str.ofString "add_optimized_curve2",
      Str.ofString "multiply_optimized_curve2", Str.ofString "eq_optimized_curve2",
      Str.ofString "normalize_optimized_curve2", Str.ofString "neg_optimized_curve2"]
abbrev seenHead (s : Shared) : Bool := xlAt vw [] s && recOk (RowW.records (OpenRow.toRowW PySem.Challenge.rw_lh0030_01.row)) s
theorem okHead : (chainsOk vw && opensWell rowL.prog && (frees rowL.toRowW && rowL.within.isEmpty)) = true := by decide +kernel
theorem bareHead : rowL.prog.bare := ⟨rfl, rfl, rfl, rfl, rfl, by decide +kernel⟩
theorem headHead {α : Type} {Yf : Shared → α} {Ya : World → α} {YP : World → Heap → Prop} {d : DefRec} {kwd : List (Str × PySem.Expr)}
    (hY : ∀ w s, Yf s = Ya w → YP w s.heap) (hYk : ∀ w h h', YP w h → (∀ b o, h.get? b = some o → h'.get? b = some o) → YP w h')
    (run : ∀ (w : World) (os : OsState), (treeRun rowL.prog w 11 (some (.ref 6)) 4384 (soil w.params os) (topStub rowL.prog)).map
        (fun s => (staticsOk (importedModules rowL.prog.main.body) (boot_heap w.params) s.abs.heap && namesBound rowL.prog s.abs.heap && gensDone s.abs && laidKept (boot_heap w.params) s.abs.heap,
          Fast.tw4187177175401517315 vw looseHead (importedModules rowL.prog.main.body) seenHead true s.abs, Yf s.abs)) = some (true, openGood vw looseHead, Ya w))
    (hdef : defOf vw rowL.name = some (d, kwd)) (hp : rowL.prog.theDef rowL.name = some (d.params, d.body, d.scope)) (hk : kwWritten? d.params.kwonlyargs d.params.kw_defaults = some kwd)
    (k1 : rowL.wellSaid = true) (hw : rowL.toRowW.promised) (call : WalkO vw looseHead (XL vw []) YP rowL.toRowW d kwd fun f vs => PySem.call f vs) : rowL.Holds :=
  holds_open (q := vw) (loose := looseHead) (Xt := seenHead) (XP := XL vw []) (Yf := Yf) (Ya := Ya) (YP := YP) (N := 4384)
    (left := left_tree (boot_open (by kernel_rfl) (by decide +kernel) (by intro s; kernel_rfl)) run)
    (hY := hY) (hYk := hYk) (hX := fun s e => xl_of s (Bool.and_eq_true_iff.mp e).1) (hXk := XL.keeps) (hdef := hdef) (hp := hp) (hk := hk) (hRf := fun s e => recFacts_of (Bool.and_eq_true_iff.mp e).2) (hwr := by rfl)
    (k1 := k1) (ok := okHead) (hb := bareHead) (hw := hw) (call := call)
local macro_rules | `(tactic| o_head $H) => `(tactic| refine headHead (Hook.of $H) (Hook.keeps $H) (by intro w os; kernel_rfl) (by rfl) (by rfl) (by rfl) (by assumption) ?hw ?call)
open_top hd for PySem.Challenge.rw_lh0030_01
end EcLaw

open PySem.Calls
namespace EcLaw
theorem fill_all : (PySem.Challenge.rw_lh0030_01, hd.heap_1) = (PySem.Challenge.rw_lh0030_01, hd.heap_1) := by k_fill; rfl
end EcLaw
namespace EcLaw

noncomputable abbrev prg : Program := PySem.Challenge.rw_lh0030_01.row.prog
noncomputable abbrev MM (w : World) : Model := model PySem.Challenge.rw_lh0030_01.row.prog w
noncomputable abbrev KK (w : World) : Frag := hd.heap_1 w.params

noncomputable def loose0 : List Str := looseW vw
    [Str.ofString "is_inf_optimized_curve", Str.ofString "is_on_curve_optimized_curve",
      Str.ofString "double_optimized_curve", Str.ofString "add_optimized_curve",
      Str.ofString "multiply_optimized_curve", Str.ofString "eq_optimized_curve",
      Str.ofString "normalize_optimized_curve", Str.ofString "neg_optimized_curve", Str.ofString "FQ",
      Str.ofString "is_inf_optimized_curve2", Str.ofString "is_on_curve_optimized_curve2",
      Str.ofString "double_optimized_curve2", Str.ofString "add_optimized_curve2",
      Str.ofString "multiply_optimized_curve2", Str.ofString "eq_optimized_curve2",
      Str.ofString "normalize_optimized_curve2", Str.ofString "neg_optimized_curve2"]

abbrev TR (mg mb : Str → Option Value) (h : Heap) : Prop := TopRead vw loose0 mg mb h
abbrev Led := List (Addr × Obj)

/-- what a call of f upon vs over the ledger gives back -/
def Spec (w : World) (f : Addr) (vs : List Value) (news : Led) (dn un : Nat) (Post : Led → Value → Prop) : Prop :=
  ∀ (mg mb : Str → Option Value) (g : Heap) (A : Around) (s : Shared), (hd.heap_1 w.params).In g → TR mg mb g → g.StaysIn s.heap → g.objs.size ≤ s.heap.objs.size →
    (∀ p ∈ news, s.heap.get? p.1 = some p.2 ∧ g.get? p.1 = none) → A.handled = none → A.depth + dn < recursionLimit → A.units + un < cLine →
    codeAny (MM w) A (.call (.ref f) ⟨vs, []⟩)
      (fun r s' => ∃ v h' tk' led, r = .ok (.ret v) ∧ s' = { s with heap := h', toks := tk' } ∧ g.StaysIn h' ∧
        (∀ p ∈ led, h'.get? p.1 = some p.2 ∧ g.get? p.1 = none) ∧ (∀ q ∈ news, q ∈ led) ∧ Post led v) s

theorem Spec.use {w : World} {f : Addr} {vs : List Value} {news : Led} {dn un : Nat} {Post : Led → Value → Prop} {mg mb : Str → Option Value}
    {g₀ : Heap} {L : Addr} {m : Str → Option Value} {A : Around} {s : Shared} {Q E : Value → Shared → Prop}
    (S : Spec w f vs news dn un Post) (F : Fr g₀ L s.heap m) (N : News g₀ L s.heap news) (X : (hd.heap_1 w.params).In g₀) (T : TR mg mb g₀)
    (hh : A.handled = none) (hdp : A.depth + dn < recursionLimit) (hun : A.units + un < cLine)
    (h : ∀ v h' tk' led, Fr g₀ L h' m → News g₀ L h' led → (∀ q ∈ news, q ∈ led) → Post led v → Q v { s with heap := h', toks := tk' }) :
    wpAny (MM w) A (call (.ref f) vs) Q E s := by
  refine wpAny_call ?_
  have nm : ∀ b o, g₀.get? b = some o → b ∉ news.map Prod.fst := fun b o e q => by
    obtain ⟨p, hp, rfl⟩ := List.mem_map.mp q
    rw [(N p hp).2.2] at e; cases e
  have st : g₀.StaysIn (hideAll s.heap (news.map Prod.fst)) := fun b o e => hideAll_get _ (F.keep b o e) (nm b o e)
  obtain ⟨oL, es, ep, hL, hLd, hLk, hLf⟩ := F.ns
  have nL : L ∉ news.map Prod.fst := fun q => by
    obtain ⟨p, hp, e⟩ := List.mem_map.mp q
    exact (N p hp).2.1 e
  have hLg := hideAll_get (news.map Prod.fst) hL nL
  refine codeAny_mono (S mg mb (hideAll s.heap (news.map Prod.fst)) A s (X.keeps st) (T.keeps st) (fun b o e => of_hideAll _ e) (Nat.le_of_eq (hideAll_size _ _))
    (fun p hp => ⟨(N p hp).1, hideAll_none _ (List.mem_map_of_mem hp)⟩) hh hdp hun) ?_
  rintro r s' ⟨v, h', tk', led, rfl, rfl, k, l, hs, P⟩
  refine h v h' tk' led ⟨⟨oL, es, ep, k _ _ hLg, hLd, hLk, hLf⟩, fun b o e => k b o (st b o e), F.above⟩ (fun p hp => ⟨(l p hp).1, fun q => ?_, ?_⟩) hs P
  · have := (l p hp).2; rw [q, hLg] at this; cases this
  · cases q : g₀.get? p.1 with
    | none => rfl
    | some o => have := (l p hp).2; rw [st _ _ q] at this; cases this

/-- what a body's end must show -/
def Back (news : Led) (Post : Led → Value → Prop) (g : Heap) (s : Shared) (v : Value) (s' : Shared) : Prop :=
  ∃ L m h' tk' led, s' = { s with heap := h', toks := tk' } ∧ Fr g L h' m ∧ News g L h' led ∧ (∀ q ∈ news, q ∈ led) ∧ Post led v

theorem back_ {news led : Led} {Post : Led → Value → Prop} {g : Heap} {s : Shared} {v : Value} {L : Addr} {m : Str → Option Value} {h' : Heap} {tk' : Nat}
    (F : Fr g L h' m) (N : News g L h' led) (hs : ∀ q ∈ news, q ∈ led) (P : Post led v) : Back news Post g s v { s with heap := h', toks := tk' } := ⟨L, m, h', tk', led, rfl, F, N, hs, P⟩

abbrev namesOf (a : Arguments) : List Str := (a.posonlyargs ++ a.args).map (·.arg)
theorem spec_def {w : World} {name qual : Str} {params : Arguments} {body : List Stmt} {scope : Scope} {dV kV doc pm cdv ct oc : Value} {an od : Option Addr} {osl : Array (Option Value)} {f : Addr} {vs : List Value} {news : Led} {dn un : Nat}
    {Post : Led → Value → Prop} {binds : List (Str × Value)}
    (ho : (hd.heap_1 w.params).lookup f = some ⟨oc, od, .func (fnOf name qual params body scope dV kV doc pm an cdv ct), osl⟩) (hcd : codeIn (hd.heap_1 w.params) cdv qual = true)
    (hbind : ∀ s, BindsTo s (fnOf name qual params body scope dV kV doc pm an cdv ct) ⟨vs, []⟩ binds) (hloc : ∀ y ∈ binds, scope.names.lookup y.1 = some .local)
    (h : ∀ (mg mb : Str → Option Value) (g h₁ : Heap) (L' : Addr) (A : Around) (s : Shared), Fr g L' h₁ (fun y => ((namesOf params).zip vs).reverse.lookup y) → News g L' h₁ news → (hd.heap_1 w.params).In g → TR mg mb g →
      A.handled = none → A.depth + dn < recursionLimit → A.units + un < cLine →
      ∀ (tk : Nat) (Q : Flow → Shared → Prop), (∀ v s', Back news Post g s v s' → Q (.ret v) s') →
      wpAny (MM w) (A.deeper (envOf qual scope L' f cdv)) (execs body (envOf qual scope L' f cdv)) Q (fun _ _ => False)
        { s with heap := h₁, toks := tk })
    (hco : scope.isCoroutine = false) (hgen : scope.isGenerator = false) (hk : scope.kind = .function)
    (hcell : ∀ x ∈ scope.names, x.2 ≠ .cell) (hn : binds = (namesOf params).zip vs) : Spec w f vs news dn un Post := by
  subst hn
  intro mg mb g A s X T st sz l hh hdp hun
  refine codeAny_call_def (fd := fnOf name qual params body scope dV kV doc pm an cdv ct) (body := body) (binds := (namesOf params).zip vs) (Nat.lt_of_le_of_lt (Nat.le_add_right _ _) hdp) ((X.keeps st) _ _ ho) rfl (T.nolimit.keeps st) (codeRec_of (X.keeps st) hcd) rfl (hbind s) hcell hloc (fun h₁ hns hk₁ => ?_) hco hgen hk
  have hF : Fr g s.heap.objs.size h₁ (fun y => ((namesOf params).zip vs).reverse.lookup y) := ⟨hns, fun b o e => hk₁ b o (st b o e), sz⟩
  refine wpAny_mono (h mg mb g h₁ s.heap.objs.size A s hF (fun p hp => ⟨hk₁ _ _ (l p hp).1, Nat.ne_of_lt (Heap.lt_size (l p hp).1), (l p hp).2⟩) X T hh hdp hun (s.toks + ((namesOf params).zip vs).length) (fun fl s' => Back news Post g s (match fl with | .ret v => v | _ => .none) s') (fun _ _ q => q)) ?_ fun _ _ q => q.elim
  rintro fl s' ⟨L, m, h', tk', led, rfl, F', N', hs, P⟩
  exact ⟨_, h', tk', led, rfl, rfl, F'.keep, fun p hp => ⟨(N' p hp).1, (N' p hp).2.2⟩, hs, P⟩

end EcLaw
namespace EcLaw
theorem def_in {w : World} {name qual : Str} {params : Arguments} {body : List Stmt} {scope : Scope} {dV kV doc pm cdv ct oc : Value} {an od : Option Addr} {osl : Array (Option Value)} {f : Addr} {vs : List Value} {news : Led}
    {binds : List (Str × Value)} {mg mb : Str → Option Value} {g₀ : Heap} {L : Addr} {m : Str → Option Value} {A : Around} {s : Shared} {R : Result → Shared → Prop}
    (F : Fr g₀ L s.heap m) (N : News g₀ L s.heap news) (X : (hd.heap_1 w.params).In g₀) (T : TR mg mb g₀) (hroom : A.depth < recursionLimit)
    (ho : (hd.heap_1 w.params).lookup f = some ⟨oc, od, .func (fnOf name qual params body scope dV kV doc pm an cdv ct), osl⟩) (hcd : codeIn (hd.heap_1 w.params) cdv qual = true)
    (hbind : BindsTo s (fnOf name qual params body scope dV kV doc pm an cdv ct) ⟨vs, []⟩ binds) (hloc : ∀ y ∈ binds, scope.names.lookup y.1 = some .local)
    (h : ∀ (g h₁ : Heap) (L' : Addr), Fr g₀ L g m → Fr g L' h₁ (fun y => binds.reverse.lookup y) → News g L' h₁ news → (hd.heap_1 w.params).In g → TR mg mb g →
      wpAny (MM w) (A.deeper (envOf qual scope L' f cdv)) (execs body (envOf qual scope L' f cdv))
        (fun fl s' => LeaveK g₀ L m g R (match fl with | .ret v => v | _ => .none) s') (fun _ _ => False)
        { s with heap := h₁, toks := s.toks + binds.length })
    (hco : scope.isCoroutine = false) (hgen : scope.isGenerator = false) (hk : scope.kind = .function)
    (hcell : ∀ x ∈ scope.names, x.2 ≠ .cell) : codeAny (MM w) A (.call (.ref f) ⟨vs, []⟩) R s := by
  have nm : ∀ b o, g₀.get? b = some o → b ∉ news.map Prod.fst := fun b o e q => by
    obtain ⟨p, hp, rfl⟩ := List.mem_map.mp q
    rw [(N p hp).2.2] at e; cases e
  have st : g₀.StaysIn (hideAll s.heap (news.map Prod.fst)) := fun b o e => hideAll_get _ (F.keep b o e) (nm b o e)
  obtain ⟨oL, es, ep, hL, hLd, hLk, hLf⟩ := F.ns
  have nL : L ∉ news.map Prod.fst := fun q => by
    obtain ⟨p, hp, e⟩ := List.mem_map.mp q
    exact (N p hp).2.1 e
  have hLg := hideAll_get (news.map Prod.fst) hL nL
  refine codeAny_call_def (fd := fnOf name qual params body scope dV kV doc pm an cdv ct) (body := body) (binds := binds) hroom ((X.keeps F.keep) _ _ ho) rfl (T.nolimit.keeps F.keep) (codeRec_of (X.keeps F.keep) hcd) rfl hbind hcell hloc (fun h₁ hns hk₁ => ?_) hco hgen hk
  refine wpAny_mono (h _ h₁ s.heap.objs.size ⟨⟨oL, es, ep, hLg, hLd, hLk, hLf⟩, st, F.above⟩ ⟨hns, fun b o e => hk₁ b o (of_hideAll _ e), Nat.le_of_eq (hideAll_size _ _)⟩
    (fun p hp => ⟨hk₁ _ _ (N p hp).1, Nat.ne_of_lt (Heap.lt_size (N p hp).1), hideAll_none _ (List.mem_map_of_mem hp)⟩) (X.keeps st) (T.keeps st)) (fun fl s' hl => ?_) fun _ _ q => q.elim
  obtain ⟨L', m', news', F', N', k⟩ := hl
  refine k ⟨⟨oL, es, ep, F'.keep L oL hLg, hLd, hLk, hLf⟩, fun b o e => F'.keep b o (st b o e), F.above⟩ fun p hp => ⟨(N' p hp).1, fun q => ?_, ?_⟩
  · have := (N' p hp).2.2; rw [q, hLg] at this; cases this
  · cases q : g₀.get? p.1 with
    | none => rfl
    | some o => have := (N' p hp).2.2; rw [st _ _ q] at this; cases this

/-- an element: its modulus p, its number n -/
def FQin (news : Led) (v : Value) (p n : Int) : Prop :=
  (0 ≤ n ∧ n < p) ∧ ∃ x dx h1 h2 t1 t2 u1 u2, v = .ref x ∧ (x, instObj 242 dx) ∈ news ∧
    (dx, dictOf [⟨h1, .str (Str.ofString "field_modulus") t1, .int p u1⟩, ⟨h2, .str (Str.ofString "n") t2, .int n u2⟩] 2) ∈ news
theorem FQin.mono {news news' : Led} {v : Value} {p n : Int} (h : FQin news v p n) (k : ∀ q ∈ news, q ∈ news') : FQin news' v p n := by
  obtain ⟨h0, x, dx, h1, h2, t1, t2, u1, u2, e, a, b⟩ := h
  exact ⟨h0, x, dx, h1, h2, t1, t2, u1, u2, e, k _ a, k _ b⟩
theorem FQin.isRef {news : Led} {v : Value} {p n : Int} (h : FQin news v p n) : ∃ x, v = .ref x := by
  obtain ⟨h0, x, dx, h1, h2, t1, t2, u1, u2, e, a, b⟩ := h
  exact ⟨x, e⟩
/-- a modulus that the walk can bear -/
def Md (p : Int) : Prop := 1 < p ∧ p.natAbs < 2 ^ 512
theorem Md.pos {p : Int} (h : Md p) : 0 < p := by have := h.1; omega
theorem Md.ne {p : Int} (h : Md p) : p ≠ 0 := by have := h.1; omega
end EcLaw

namespace EcLaw
local macro_rules | `(tactic| k_all) => `(tactic| (intro q9 hq9; refine Nat.ne_of_lt ?_; revert q9 hq9; assumption))

theorem fmod_pos {n p : Int} (hp : Md p) : Int.fmod n p = n % p := Int.fmod_eq_emod_of_nonneg n (Int.le_of_lt hp.pos)

theorem fq_new {w : World} {mg mb : Str → Option Value} {news : Led} {g₀ : Heap} {L : Addr} {m : Str → Option Value} {A : Around} {s : Shared} {Q E : Value → Shared → Prop} {n p : Int} {t u : Tok}
    (F : Fr g₀ L s.heap m) (N : News g₀ L s.heap news) (X : (hd.heap_1 w.params).In g₀) (T : TR mg mb g₀) (hp : Md p) (hroom : A.depth + 2 < recursionLimit)
    (h : ∀ x h' tk' led, Fr g₀ L h' m → News g₀ L h' led → (∀ q ∈ news, q ∈ led) → FQin led (.ref x) p (n % p) → Q (.ref x) { s with heap := h', toks := tk' }) :
    wpAny (MM w) A (call (.ref 242) [.int n t, .int p u]) Q E s := by
  have hp0 := hp.ne
  have hb : 0 ≤ Int.fmod n p ∧ Int.fmod n p < p := by rw [fmod_pos hp]; exact ⟨Int.emod_nonneg _ hp0, Int.emod_lt_of_pos _ hp.pos⟩
  rw [← fmod_pos hp] at h
  refine call_cls F X N (by k_is) (by k_is) (by k_is) fun x dx h' F' N' l1 l2 => ?_
  refine def_in F' N' X T ?_ (by k_is) (by k_is) (BindsTo.of_eq rfl) (locs rfl) ?_ rfl rfl rfl (by decide)
  · simp only [depth_under_make]; omega
  intro g h₁ L' FG F1 N1 X1 T1
  k_lt2 l2
  k_steps
  all_goals exact h _ _ _ _ (by assumption) (by assumption) (fun q hq => .tail _ (.tail _ hq)) ⟨hb, x, dx, _, _, _, _, _, _, rfl, .head _, .tail _ (.head _)⟩

theorem int_mul_declines (a : Int) (t : Tok) (l : Addr) (o : Obj) (hp : o.data = .plain) :
    Meets (Builtin.«int.__mul__» ⟨[.int a t, .ref l], []⟩) (fun _ R s => s.heap.get? l = some o ∧ R (.ok (.ret Value.notImplemented)) s) :=
  .of_wp fun prog w A R s h => by
    obtain ⟨hp', g, d, tk, os⟩ := s
    obtain ⟨hl, h⟩ := h
    obtain ⟨c, dd, dt, sl⟩ := o
    dsimp only at hp
    subst hp
    wp_walk; exact ⟨_, rfl, h⟩

theorem mul_int_inst {prog : Program} {w : World} {A : Around} {E : Value → Shared → Prop} {s : Shared} {K : Frag} {x C L f : Addr} {h₀ : Heap} {m : Str → Option Value} {dx : Addr} {sl : Array (Option Value)} {od : Option Obj}
    {a : Int} {t : Tok} {Q : Value → Shared → Prop} (F : Fr h₀ L s.heap m) (X₀ : K.In h₀) (I : InstAt s.heap x ⟨.ref C, some dx, .plain, sl⟩ C od) (hc : selfFirst K C = true)
    (hm : (∃ f, findIn K (.ref C) "__mul__" = some (some (.ref f)))) (hs : findIn K (.ref C) "__rmul__" = some (some (.ref f))) (hf : isFn K (.ref f) = true) (hsub : subIn K (.ref C) (.type "int") = some false)
    (h : wpAny (model prog w) A (call (.ref f) [.ref x, .int a t]) (PySem.W.CmpBack Q) E s) : wpAny (model prog w) A (binaryOp .Mult (.int a t) (.ref x)) Q E s := by
  have X := X₀.keeps F.keep
  obtain ⟨fm, hm⟩ := hm
  obtain ⟨cd, rest, hcd, hmr⟩ := ksp_first hc
  have one := ksp_try X I hs hf h
  have hx : s.heap.get? x = some ⟨.ref C, some dx, .plain, sl⟩ := I.at_
  have L2 : Looks (model prog w) s.heap (typeOf (.ref x)) (.ref C) := I.type
  have L4 : Looks (model prog w) s.heap (fillsNumberSlot (.ref C) "mul") true := fills_K X hcd hmr hm
  have L5 : Looks (model prog w) s.heap (isSubtype (.ref C) (.type "int")) false := looks_subIn X hsub
  unfold binaryOp
  refine wpAny_holding (wpAny_bind ?_)
  unfold binaryOp1
  refine wpAny_bind (wpAny_typeOf (typeIs_int s a t) (wpAny_bind (L2.here (wpAny_bind (wpAny_of_eq PySem.F.fills_int_mul ?_)))))
  have hne : (Value.type "int" == Value.ref C) = false := Bool.eq_false_iff.mpr fun q => by cases beq_iff_eq.mp q
  simp only [hne, Bool.false_eq_true, if_false]
  refine wpAny_bind (L4.here ?_)
  simp only [Bool.and_self, if_true]
  refine wpAny_bind (L5.here ?_)
  have hpy : numberSlotInPython (.type "int") "mul" = pure false := rfl
  simp only [Bool.false_eq_true, if_false, pure_bind, Bool.not_false, Bool.and_self, if_true, hpy]
  have hsl : Slot "int" (PySem.dunder "mul") "int.__mul__" := PySem.F.slot_int_mul
  with_reducible refine wpAny_bind ?_
  have hT := typeIs_int s a t
  with_reducible refine wpAny_tryMethod_declines hT hsl ?_
  refine (call_meets PySem.F.slot_int_mul hT PySem.F.entry_int_mul (PySem.F.args_int_mul_2 _ _) (int_mul_declines a t x _ rfl) ⟨hx, ?_⟩)
  refine ⟨rfl, ?_⟩
  dsimp only
  refine wpAny_bind (wpAny_mono one (fun r s' hr => ?_) fun _ _ e => e)
  obtain ⟨v, rfl, hq⟩ := hr
  exact wpAny_bind (wpAny_rule (wpAny_pure (wpAny_pure hq)))

section
variable {w : World} {mg mb : Str → Option Value} {led : Led} {g₀ : Heap} {L : Addr} {m : Str → Option Value} {A : Around} {s : Shared} {Q E : Value → Shared → Prop} {a b p : Int} {x y : Addr}

theorem FQin.inst (P : FQin led (.ref x) p a) (N : News g₀ L s.heap led) : ∃ dx h1 h2 t1 t2 u1 u2,
    InstAt s.heap x (instObj 242 dx) 242 (some (dictOf [⟨h1, .str (Str.ofString "field_modulus") t1, .int p u1⟩, ⟨h2, .str (Str.ofString "n") t2, .int a u2⟩] 2)) := by
  obtain ⟨_, x', dx, h1, h2, t1, t2, u1, u2, e, m1, m2⟩ := P
  cases e
  exact ⟨dx, h1, h2, t1, t2, u1, u2, InstAt.of_news N m1 m2⟩

theorem fq_attr_n {expr : Bool} (F : Fr g₀ L s.heap m) (X : (hd.heap_1 w.params).In g₀) (N : News g₀ L s.heap led) (P : FQin led (.ref x) p a)
    (h : ∀ u, Q (.int a u) { s with toks := s.toks + 1 }) : wpAny (MM w) A (getAttr (.ref x) (Str.ofString "n") expr) Q E s := by
  obtain ⟨dx, h1, h2, t1, t2, u1, u2, I⟩ := P.inst N
  exact get_own F X I (by k_is) (by k_is) (by k_is) (by k_is) (by k_get) (by k_handed) (h _)
theorem fq_attr_mod {expr : Bool} (F : Fr g₀ L s.heap m) (X : (hd.heap_1 w.params).In g₀) (N : News g₀ L s.heap led) (P : FQin led (.ref x) p a)
    (h : ∀ u, Q (.int p u) { s with toks := s.toks + 1 }) : wpAny (MM w) A (getAttr (.ref x) (Str.ofString "field_modulus") expr) Q E s := by
  obtain ⟨dx, h1, h2, t1, t2, u1, u2, I⟩ := P.inst N
  exact get_own F X I (by k_is) (by k_is) (by k_is) (by k_is) (by k_get) (by k_handed) (h _)
theorem fq_isinst (F : Fr g₀ L s.heap m) (X : (hd.heap_1 w.params).In g₀) (N : News g₀ L s.heap led) (P : FQin led (.ref x) p a)
    (h : Q (.bool true) s) : wpAny (MM w) A (call (.builtin "isinstance") [.ref x, .ref 242]) Q E s := by
  obtain ⟨dx, h1, h2, t1, t2, u1, u2, I⟩ := P.inst N
  exact isi_call (X.keeps F.keep) (fun M => I.type) (by k_is) (by intro e; cases e) h
end

section
variable {w : World} {mg mb : Str → Option Value} {led : Led} {g₀ : Heap} {L : Addr} {m : Str → Option Value} {A : Around} {s : Shared} {Q : Value × List Value → Shared → Prop} {E : Value → Shared → Prop} {a b p : Int} {x y : Addr} {pl : Sem Bool}
theorem fq_meth_made (F : Fr g₀ L s.heap m) (X : (hd.heap_1 w.params).In g₀) (N : News g₀ L s.heap led) (P : FQin led (.ref x) p a)
    (h : Q (.ref 225, [.ref x]) s) : wpAny (MM w) A (getMethod (.ref x) (Str.ofString "made") pl) Q E s := by
  obtain ⟨dx, h1, h2, t1, t2, u1, u2, I⟩ := P.inst N
  exact method_inst F X I (by k_is) (by k_is) (by k_is) (by k_get) h
theorem fq_meth_one (F : Fr g₀ L s.heap m) (X : (hd.heap_1 w.params).In g₀) (N : News g₀ L s.heap led) (P : FQin led (.ref x) p a)
    (h : Q (.ref 232, [.ref x]) s) : wpAny (MM w) A (getMethod (.ref x) (Str.ofString "one") pl) Q E s := by
  obtain ⟨dx, h1, h2, t1, t2, u1, u2, I⟩ := P.inst N
  exact method_inst F X I (by k_is) (by k_is) (by k_is) (by k_get) h
theorem fq_meth_zero (F : Fr g₀ L s.heap m) (X : (hd.heap_1 w.params).In g₀) (N : News g₀ L s.heap led) (P : FQin led (.ref x) p a)
    (h : Q (.ref 239, [.ref x]) s) : wpAny (MM w) A (getMethod (.ref x) (Str.ofString "zero") pl) Q E s := by
  obtain ⟨dx, h1, h2, t1, t2, u1, u2, I⟩ := P.inst N
  exact method_inst F X I (by k_is) (by k_is) (by k_is) (by k_get) h
end
end EcLaw

namespace EcLaw
theorem fill2 : (PySem.Challenge.rw_lh0030_01, hd.heap_1) = (PySem.Challenge.rw_lh0030_01, hd.heap_1) := by k_fill; rfl
theorem sub_trans {a b c : Led} (h : ∀ q ∈ a, q ∈ b) (k : ∀ q ∈ b, q ∈ c) : ∀ q ∈ a, q ∈ c := fun q hq => k q (h q hq)
theorem sub_refl {a : Led} : ∀ q ∈ a, q ∈ a := fun _ h => h
theorem sub_cons {a b : Led} {x : Addr × Obj} (h : ∀ q ∈ a, q ∈ b) : ∀ q ∈ a, q ∈ x :: b := fun q hq => .tail _ (h q hq)

/-- a number that the walk may multiply -/
def Sm (B : Nat) (a : Int) : Prop := a.natAbs < 2 ^ B
theorem Sm.bits {B : Nat} {a : Int} (h : Sm B a) : Builtin.Int.intBits a ≤ B := by
  unfold Builtin.Int.intBits
  split
  · exact Nat.zero_le _
  · rename_i hz
    have h0 : a.natAbs ≠ 0 := by
      intro q; apply hz; simp only [Int.natAbs_eq_zero] at q; subst q; rfl
    have : a.natAbs.log2 < B := (Nat.log2_lt h0).mpr h
    omega
theorem Sm.mulOk {B C : Nat} {a b : Int} (ha : Sm B a) (hb : Sm C b) (h : B + C ≤ 134217728 := by decide) : IntMulOk a b := IntMulOk.of_le ha.bits hb.bits h
theorem Sm.mul {B C : Nat} {a b : Int} (ha : Sm B a) (hb : Sm C b) : Sm (B + C) (a * b) := by
  unfold Sm at *
  rw [Int.natAbs_mul, Nat.pow_add]
  exact Nat.mul_lt_mul'' ha hb
theorem Sm.le {B C : Nat} {a : Int} (ha : Sm B a) (h : B ≤ C) : Sm C a := Nat.lt_of_lt_of_le ha (Nat.pow_le_pow_right (by decide) h)
theorem Sm.add {B : Nat} {a b : Int} (ha : Sm B a) (hb : Sm B b) : Sm (B + 1) (a + b) := by
  unfold Sm at *
  rw [Nat.pow_succ]
  omega
theorem Sm.neg {B : Nat} {a : Int} (ha : Sm B a) : Sm B (-a) := by unfold Sm at *; omega
theorem Sm.sub {B : Nat} {a b : Int} (ha : Sm B a) (hb : Sm B b) : Sm (B + 1) (a - b) := by
  rw [Int.sub_eq_add_neg]; exact ha.add hb.neg
theorem Md.sm {p : Int} (h : Md p) : Sm 512 p := h.2
theorem natAbs_lt_of {p n : Int} (h0 : 0 ≤ n) (h1 : n < p) : n.natAbs < p.natAbs := by omega
theorem Md.sm_of {p n : Int} (h : Md p) (h0 : 0 ≤ n) (h1 : n < p) : Sm 512 n := Nat.lt_trans (natAbs_lt_of h0 h1) h.2
theorem FQin.sm {led : Led} {v : Value} {p n : Int} (P : FQin led v p n) (h : Md p) : Sm 512 n := h.sm_of P.1.1 P.1.2
theorem FQin.lt {led : Led} {v : Value} {p n : Int} (P : FQin led v p n) : 0 ≤ n ∧ n < p := P.1

local macro_rules | `(tactic| tb_rel) => `(tactic| first | assumption | (refine FQin.mono ?_ (by assumption); tb_rel))
local macro_rules | `(tactic| tb_start) => `(tactic| first | assumption | exact sub_refl | (refine sub_trans ?_ (by assumption); tb_start))
local macro_rules | `(tactic| ktr_room) => `(tactic| ((try simp only [depth_deeper, depth_in1, units_deeper, units_in1]); omega))
local macro_rules | `(tactic| walk_at "getAttr ref") => `(tactic| (k_here; k_dflt (first | (with_reducible refine fq_attr_n (by assumption) (by assumption) (by assumption) (by tb_rel) ?_) | (with_reducible refine fq_attr_mod (by assumption) (by assumption) (by assumption) (by tb_rel) ?_)); intro u9))
local macro_rules | `(tactic| walk_at "call builtin:isinstance") => `(tactic| (k_here; k_dflt (with_reducible refine fq_isinst (by assumption) (by assumption) (by assumption) (by tb_rel) ?_)))
local macro_rules | `(tactic| walk_at "getMethod ref") => `(tactic| (k_here; k_dflt (first
  | (with_reducible refine fq_meth_made (by assumption) (by assumption) (by assumption) (by tb_rel) ?_)
  | (with_reducible refine fq_meth_one (by assumption) (by assumption) (by assumption) (by tb_rel) ?_)
  | (with_reducible refine fq_meth_zero (by assumption) (by assumption) (by assumption) (by tb_rel) ?_))))
local macro_rules | `(tactic| walk_at "call ref") => `(tactic| (k_here; k_dflt ((with_reducible refine fq_new (by assumption) (by assumption) (by assumption) (by assumption) (by assumption) ?hr ?_); (case hr => ktr_room); intro x9 h9 tk9 led9 F9 N9 hs9 P9)))

variable {w : World} {news : Led} {x y : Addr} {p m n : Int} {t : Tok}

theorem spec_made (hp : Md p) (hx : FQin news (.ref x) p m) : Spec w 225 [.ref x, .int n t] news 5 20 (fun led v => FQin led v p (n % p)) := by
  refine spec_def (by k_is) (by k_is) (fun _ => BindsTo.of_eq rfl) (locs rfl) ?_ rfl rfl rfl (by decide) (by kernel_rfl)
  intro mg mb g h₁ L' A s F N X T hh hd hu tk0 Q0 hQ0
  k_steps
  all_goals exact hQ0 _ _ (back_ (by assumption) (by assumption) (by tb_start) (by assumption))

theorem Spec.useFQ {w : World} {f : Addr} {vs : List Value} {news : Led} {dn un : Nat} {p r : Int} {mg mb : Str → Option Value}
    {g₀ : Heap} {L : Addr} {m : Str → Option Value} {A : Around} {s : Shared} {Q E : Value → Shared → Prop}
    (N : News g₀ L s.heap news) (F : Fr g₀ L s.heap m) (X : (hd.heap_1 w.params).In g₀) (T : TR mg mb g₀) (hh : A.handled = none)
    (S : Spec w f vs news dn un (fun led v => FQin led v p r)) (hdp : A.depth + dn < recursionLimit) (hun : A.units + un < cLine)
    (h : ∀ z h' tk' led, Fr g₀ L h' m → News g₀ L h' led → (∀ q ∈ news, q ∈ led) → FQin led (.ref z) p r → Q (.ref z) { s with heap := h', toks := tk' }) :
    wpAny (MM w) A (call (.ref f) vs) Q E s := by
  refine S.use F N X T hh hdp hun fun v h' tk' led F' N' hs P => ?_
  obtain ⟨z, rfl⟩ := FQin.isRef P
  exact h z h' tk' led F' N' hs P

theorem fmm {a p : Int} (hp : Md p) : Int.fmod a p % p = a % p := by rw [fmod_pos hp, Int.emod_emod_of_dvd _ (Int.dvd_refl _)]

local macro_rules | `(tactic| walk_at "call ref") => `(tactic| (k_here; k_dflt ((with_reducible refine Spec.useFQ (by assumption) (by assumption) (by assumption) (by assumption) (by k_dflt assumption) (spec_made (by assumption) (by tb_rel)) ?hr ?hu ?_); (case hr => ktr_room); (case hu => ktr_room); intro x9 h9 tk9 led9 F9 N9 hs9 P9)))

theorem spec_one (hp : Md p) (hx : FQin news (.ref x) p m) : Spec w 232 [.ref x] news 7 30 (fun led v => FQin led v p 1) := by
  refine spec_def (by k_is) (by k_is) (fun _ => BindsTo.of_eq rfl) (locs rfl) ?_ rfl rfl rfl (by decide) (by kernel_rfl)
  intro mg mb g h₁ L' A s F N X T hh hd hu tk0 Q0 hQ0
  have e : (1 : Int) % p = 1 := Int.emod_eq_of_lt (by decide) hp.1
  k_steps
  all_goals exact hQ0 _ _ (back_ (by assumption) (by assumption) (by tb_start) (by rw [← e]; assumption))
theorem spec_zero (hp : Md p) (hx : FQin news (.ref x) p m) : Spec w 239 [.ref x] news 7 30 (fun led v => FQin led v p 0) := by
  refine spec_def (by k_is) (by k_is) (fun _ => BindsTo.of_eq rfl) (locs rfl) ?_ rfl rfl rfl (by decide) (by kernel_rfl)
  intro mg mb g h₁ L' A s F N X T hh hd hu tk0 Q0 hQ0
  have e : (0 : Int) % p = 0 := Int.zero_emod p
  k_steps
  all_goals exact hQ0 _ _ (back_ (by assumption) (by assumption) (by tb_start) (by rw [← e]; assumption))
theorem spec_neg (hp : Md p) (hx : FQin news (.ref x) p m) : Spec w 189 [.ref x] news 7 30 (fun led v => FQin led v p (-m % p)) := by
  refine spec_def (by k_is) (by k_is) (fun _ => BindsTo.of_eq rfl) (locs rfl) ?_ rfl rfl rfl (by decide) (by kernel_rfl)
  intro mg mb g h₁ L' A s F N X T hh hd hu tk0 Q0 hQ0
  k_steps
  all_goals exact hQ0 _ _ (back_ (by assumption) (by assumption) (by tb_start) (by assumption))
theorem spec_mul (hp : Md p) (hx : FQin news (.ref x) p m) (hy : FQin news (.ref y) p n) : Spec w 112 [.ref x, .ref y] news 7 30 (fun led v => FQin led v p (m * n % p)) := by
  refine spec_def (by k_is) (by k_is) (fun _ => BindsTo.of_eq rfl) (locs rfl) ?_ rfl rfl rfl (by decide) (by kernel_rfl)
  intro mg mb g h₁ L' A s F N X T hh hd hu tk0 Q0 hQ0
  have hm : IntMulOk m n := Sm.mulOk (hx.sm hp) (hy.sm hp)
  have hp0 := hp.ne
  k_steps
  all_goals exact hQ0 _ _ (back_ (by assumption) (by assumption) (by tb_start) (by rw [← fmm hp]; assumption))
theorem spec_sub (hp : Md p) (hx : FQin news (.ref x) p m) (hy : FQin news (.ref y) p n) : Spec w 140 [.ref x, .ref y] news 7 30 (fun led v => FQin led v p ((m - n) % p)) := by
  refine spec_def (by k_is) (by k_is) (fun _ => BindsTo.of_eq rfl) (locs rfl) ?_ rfl rfl rfl (by decide) (by kernel_rfl)
  intro mg mb g h₁ L' A s F N X T hh hd hu tk0 Q0 hQ0
  have hp0 := hp.ne
  k_steps
  all_goals exact hQ0 _ _ (back_ (by assumption) (by assumption) (by tb_start) (by rw [← fmm hp]; assumption))
theorem fill3 : (PySem.Challenge.rw_lh0030_01, hd.heap_1) = (PySem.Challenge.rw_lh0030_01, hd.heap_1) := by k_fill; rfl

section
variable {w : World} {news : Led} {x y : Addr} {p m n : Int} {t : Tok}
theorem spec_mulI (hp : Md p) (hx : FQin news (.ref x) p m) (hn : Sm 512 n) : Spec w 112 [.ref x, .int n t] news 7 30 (fun led v => FQin led v p (m * n % p)) := by
  refine spec_def (by k_is) (by k_is) (fun _ => BindsTo.of_eq rfl) (locs rfl) ?_ rfl rfl rfl (by decide) (by kernel_rfl)
  intro mg mb g h₁ L' A s F N X T hh hd hu tk0 Q0 hQ0
  have hm : IntMulOk m n := Sm.mulOk (hx.sm hp) hn
  have hp0 := hp.ne
  k_steps
  all_goals exact hQ0 _ _ (back_ (by assumption) (by assumption) (by tb_start) (by rw [← fmm hp]; assumption))
theorem spec_eq (hx : FQin news (.ref x) p m) (hy : FQin news (.ref y) p n) : Spec w 175 [.ref x, .ref y] news 7 30 (fun led v => v = .bool (m == n)) := by
  refine spec_def (by k_is) (by k_is) (fun _ => BindsTo.of_eq rfl) (locs rfl) ?_ rfl rfl rfl (by decide) (by kernel_rfl)
  intro mg mb g h₁ L' A s F N X T hh hd hu tk0 Q0 hQ0
  k_steps
  all_goals exact hQ0 _ _ (back_ (by assumption) (by assumption) (by tb_start) rfl)
end

/-- a call that makes nothing that we keep -/
theorem Spec.use0 {w : World} {f : Addr} {vs : List Value} {news : Led} {dn un : Nat} {Post : Value → Prop} {mg mb : Str → Option Value}
    {g₀ : Heap} {L : Addr} {m : Str → Option Value} {A : Around} {s : Shared} {Q E : Value → Shared → Prop}
    (N : News g₀ L s.heap news) (F : Fr g₀ L s.heap m) (X : (hd.heap_1 w.params).In g₀) (T : TR mg mb g₀) (hh : A.handled = none)
    (S : Spec w f vs news dn un (fun _ v => Post v)) (hdp : A.depth + dn < recursionLimit) (hun : A.units + un < cLine)
    (h : ∀ v h' tk', Fr g₀ L h' m → News g₀ L h' news → Post v → Q v { s with heap := h', toks := tk' }) :
    wpAny (MM w) A (call (.ref f) vs) Q E s :=
  S.use F N X T hh hdp hun fun v h' tk' _ F' N' hs P => h v h' tk' F' (fun p hp => N' p (hs p hp)) P

section
variable {w : World} {mg mb : Str → Option Value} {led : Led} {g₀ : Heap} {L : Addr} {m : Str → Option Value} {A : Around} {s : Shared} {Q E : Value → Shared → Prop} {a b p : Int} {x y : Addr} {t : Tok}

theorem fq_mul (hp : Md p) (F : Fr g₀ L s.heap m) (X : (hd.heap_1 w.params).In g₀) (T : TR mg mb g₀) (N : News g₀ L s.heap led) (P : FQin led (.ref x) p a) (P' : FQin led (.ref y) p b)
    (hh : A.handled = none) (hdp : A.depth + 7 < recursionLimit) (hun : A.units + 30 < cLine)
    (h : ∀ z h' tk' led', Fr g₀ L h' m → News g₀ L h' led' → (∀ q ∈ led, q ∈ led') → FQin led' (.ref z) p (a * b % p) → Q (.ref z) { s with heap := h', toks := tk' }) :
    wpAny (MM w) A (binaryOp .Mult (.ref x) (.ref y)) Q E s := by
  obtain ⟨dx, h1, h2, t1, t2, u1, u2, I⟩ := P.inst N
  obtain ⟨dx', h1', h2', t1', t2', u1', u2', I'⟩ := P'.inst N
  refine binop_K F X I I'.type (by k_is) (by k_is) (by k_is) ?_
  exact Spec.useFQ N F X T hh (spec_mul hp P P') hdp hun fun z h' tk' led' F' N' hs P9 => h z h' tk' led' F' N' hs P9
theorem fq_sub (hp : Md p) (F : Fr g₀ L s.heap m) (X : (hd.heap_1 w.params).In g₀) (T : TR mg mb g₀) (N : News g₀ L s.heap led) (P : FQin led (.ref x) p a) (P' : FQin led (.ref y) p b)
    (hh : A.handled = none) (hdp : A.depth + 7 < recursionLimit) (hun : A.units + 30 < cLine)
    (h : ∀ z h' tk' led', Fr g₀ L h' m → News g₀ L h' led' → (∀ q ∈ led, q ∈ led') → FQin led' (.ref z) p ((a - b) % p) → Q (.ref z) { s with heap := h', toks := tk' }) :
    wpAny (MM w) A (binaryOp .Sub (.ref x) (.ref y)) Q E s := by
  obtain ⟨dx, h1, h2, t1, t2, u1, u2, I⟩ := P.inst N
  obtain ⟨dx', h1', h2', t1', t2', u1', u2', I'⟩ := P'.inst N
  refine binop_K F X I I'.type (by k_is) (by k_is) (by k_is) ?_
  exact Spec.useFQ N F X T hh (spec_sub hp P P') hdp hun fun z h' tk' led' F' N' hs P9 => h z h' tk' led' F' N' hs P9
theorem fq_mulI (hp : Md p) (hn : Sm 512 b) (F : Fr g₀ L s.heap m) (X : (hd.heap_1 w.params).In g₀) (T : TR mg mb g₀) (N : News g₀ L s.heap led) (P : FQin led (.ref x) p a)
    (hh : A.handled = none) (hdp : A.depth + 7 < recursionLimit) (hun : A.units + 30 < cLine)
    (h : ∀ z h' tk' led', Fr g₀ L h' m → News g₀ L h' led' → (∀ q ∈ led, q ∈ led') → FQin led' (.ref z) p (a * b % p) → Q (.ref z) { s with heap := h', toks := tk' }) :
    wpAny (MM w) A (binaryOp .Mult (.ref x) (.int b t)) Q E s := by
  obtain ⟨dx, h1, h2, t1, t2, u1, u2, I⟩ := P.inst N
  refine ksp_binT (T := "int") F X I rfl (by k_is) (by k_is) (by k_is) (by k_is) (.inr ⟨_, rfl⟩) (by k_is) (by k_is) (by k_is) ?_
  exact Spec.useFQ N F X T hh (spec_mulI hp P hn) hdp hun fun z h' tk' led' F' N' hs P9 => h z h' tk' led' F' N' hs P9
theorem fq_neg (hp : Md p) (F : Fr g₀ L s.heap m) (X : (hd.heap_1 w.params).In g₀) (T : TR mg mb g₀) (N : News g₀ L s.heap led) (P : FQin led (.ref x) p a)
    (hh : A.handled = none) (hdp : A.depth + 7 < recursionLimit) (hun : A.units + 30 < cLine)
    (h : ∀ z h' tk' led', Fr g₀ L h' m → News g₀ L h' led' → (∀ q ∈ led, q ∈ led') → FQin led' (.ref z) p (-a % p) → Q (.ref z) { s with heap := h', toks := tk' }) :
    wpAny (MM w) A (unaryOp .USub (.ref x)) Q E s := by
  obtain ⟨dx, h1, h2, t1, t2, u1, u2, I⟩ := P.inst N
  refine ksp_neg F X I (by k_is) (by k_is) ?_
  exact Spec.useFQ N F X T hh (spec_neg hp P) hdp hun fun z h' tk' led' F' N' hs P9 => h z h' tk' led' F' N' hs P9
theorem fq_eq (F : Fr g₀ L s.heap m) (X : (hd.heap_1 w.params).In g₀) (T : TR mg mb g₀) (N : News g₀ L s.heap led) (P : FQin led (.ref x) p a) (P' : FQin led (.ref y) p b)
    (hh : A.handled = none) (hdp : A.depth + 7 < recursionLimit) (hun : A.units + 30 < cLine)
    (h : ∀ h' tk', Fr g₀ L h' m → News g₀ L h' led → Q (.bool (a == b)) { s with heap := h', toks := tk' }) :
    wpAny (MM w) A (compareOp .Eq (.ref x) (.ref y)) Q E s := by
  obtain ⟨dx, h1, h2, t1, t2, u1, u2, I⟩ := P.inst N
  obtain ⟨dx', h1', h2', t1', t2', u1', u2', I'⟩ := P'.inst N
  refine cmp_ofEq (cmp_K (by omega) F X I I'.type (by k_is) (by k_is) (by k_is) ?_)
  exact Spec.use0 N F X T hh (spec_eq P P') hdp hun fun z h' tk' F' N' P9 => by subst P9; exact h h' tk' F' N'
end

local macro_rules | `(tactic| walk_at "binaryOp Mult ref") => `(tactic| (k_here; k_dflt (first | (with_reducible refine fq_mul (by assumption) (by assumption) (by assumption) (by assumption) (by assumption) (by tb_rel) (by tb_rel) (by k_dflt assumption) ?hr ?hu ?_) | (with_reducible refine fq_mulI (by assumption) (by assumption) (by assumption) (by assumption) (by assumption) (by assumption) (by tb_rel) (by k_dflt assumption) ?hr ?hu ?_)); (case hr => ktr_room); (case hu => ktr_room); intro x9 h9 tk9 led9 F9 N9 hs9 P9))

section
variable {w : World} {news : Led} {x y : Addr} {p m n : Int} {t : Tok}
theorem spec_rmul (hp : Md p) (hx : FQin news (.ref x) p m) (hn : Sm 512 n) : Spec w 119 [.ref x, .int n t] news 10 40 (fun led v => FQin led v p (m * n % p)) := by
  refine spec_def (by k_is) (by k_is) (fun _ => BindsTo.of_eq rfl) (locs rfl) ?_ rfl rfl rfl (by decide) (by kernel_rfl)
  intro mg mb g h₁ L' A s F N X T hh hd hu tk0 Q0 hQ0
  k_steps
  all_goals exact hQ0 _ _ (back_ (by assumption) (by assumption) (by tb_start) (by assumption))
end
section
variable {w : World} {mg mb : Str → Option Value} {led : Led} {g₀ : Heap} {L : Addr} {m : Str → Option Value} {A : Around} {s : Shared} {Q E : Value → Shared → Prop} {a b p : Int} {x y : Addr} {t : Tok}
theorem fq_rmul (hp : Md p) (hn : Sm 512 b) (F : Fr g₀ L s.heap m) (X : (hd.heap_1 w.params).In g₀) (T : TR mg mb g₀) (N : News g₀ L s.heap led) (P : FQin led (.ref x) p a)
    (hh : A.handled = none) (hdp : A.depth + 10 < recursionLimit) (hun : A.units + 40 < cLine)
    (h : ∀ z h' tk' led', Fr g₀ L h' m → News g₀ L h' led' → (∀ q ∈ led, q ∈ led') → FQin led' (.ref z) p (a * b % p) → Q (.ref z) { s with heap := h', toks := tk' }) :
    wpAny (MM w) A (binaryOp .Mult (.int b t) (.ref x)) Q E s := by
  obtain ⟨dx, h1, h2, t1, t2, u1, u2, I⟩ := P.inst N
  refine mul_int_inst F X I (by k_is) ⟨112, by k_is⟩ (by k_is) (by k_is) (by k_is) ?_
  exact Spec.useFQ N F X T hh (spec_rmul hp P hn) hdp hun fun z h' tk' led' F' N' hs P9 => h z h' tk' led' F' N' hs P9
end
end EcLaw

namespace EcLaw
theorem sub_new {a : Led} {x : Addr × Obj} : ∀ q ∈ a, q ∈ x :: a := fun _ h => .tail _ h
theorem sub_left {a b : Led} : ∀ q ∈ a, q ∈ a ++ b := fun _ h => List.mem_append_left _ h
theorem sm_small {a : Int} (h : a.natAbs < 2 ^ 64) : Sm 512 a := Sm.le (B := 64) h (by decide)
abbrev tupObj (vs : List Value) : Obj := { cls := .type "tuple", data := .seq vs.toArray }
abbrev Tri : Type := Int × Int × Int
def FormIn (led : Led) (v : Value) (p : Int) (f : Tri) : Prop :=
  ∃ t a b c, v = .ref t ∧ (t, tupObj [.ref a, .ref b, .ref c]) ∈ led ∧ FQin led (.ref a) p f.1 ∧ FQin led (.ref b) p f.2.1 ∧ FQin led (.ref c) p f.2.2
theorem FormIn.mono {news news' : Led} {v : Value} {p : Int} {f : Tri} (h : FormIn news v p f) (k : ∀ q ∈ news, q ∈ news') : FormIn news' v p f := by
  obtain ⟨t, a, b, c, e, m, A, B, C⟩ := h
  exact ⟨t, a, b, c, e, k _ m, A.mono k, B.mono k, C.mono k⟩
theorem FormIn.isRef {news : Led} {v : Value} {p : Int} {f : Tri} (h : FormIn news v p f) : ∃ x, v = .ref x := by
  obtain ⟨t, a, b, c, e, m, A, B, C⟩ := h
  exact ⟨t, e⟩
theorem mem_of_sub {a b : Led} {x : Addr × Obj} (h : x ∈ a) (k : ∀ q ∈ a, q ∈ b) : x ∈ b := k x h

def dblI (p : Int) (f : Tri) : Tri :=
  let x := f.1
  let y := f.2.1
  let z := f.2.2
  let W := x * 3 % p * x % p
  let S := y * z % p
  let B := x * y % p * S % p
  let H := (W * W % p - B * 8 % p) % p
  let S2 := S * S % p
  (H * 2 % p * S % p, (W * ((B * 4 % p - H) % p) % p - y * 8 % p * y % p * S2 % p) % p, S * 8 % p * S2 % p)

/-- the sum of two forms with another first number -/
def addG (p : Int) (f g : Tri) : Tri :=
  let U1 := g.2.1 * f.2.2 % p
  let U2 := f.2.1 * g.2.2 % p
  let V1 := g.1 * f.2.2 % p
  let V2 := f.1 * g.2.2 % p
  let U := (U1 - U2) % p
  let V := (V1 - V2) % p
  let Vs := V * V % p
  let VV := Vs * V2 % p
  let Vc := V * Vs % p
  let W := f.2.2 * g.2.2 % p
  let A := ((U * U % p * W % p - Vc) % p - VV * 2 % p) % p
  (V * A % p, (U * ((VV - A) % p) % p - Vc * U2 % p) % p, Vc * W % p)
def addI (p : Int) (f g : Tri) : Tri :=
  if g.2.2 = 0 then f else if f.2.2 = 0 then g else
  if g.1 * f.2.2 % p = f.1 * g.2.2 % p then
    (if g.2.1 * f.2.2 % p = f.2.1 * g.2.2 % p then dblI p f else (1, 1, 0))
  else addG p f g
section
variable {p x1 y1 z1 x2 y2 z2 : Int}
theorem addI_r1 (h : z2 = 0) : addI p (x1, y1, z1) (x2, y2, z2) = (x1, y1, z1) := by unfold addI; rw [if_pos h]
theorem addI_r2 (h : z2 ≠ 0) (k : z1 = 0) : addI p (x1, y1, z1) (x2, y2, z2) = (x2, y2, z2) := by unfold addI; rw [if_neg h, if_pos k]
theorem addI_dbl (h : z2 ≠ 0) (k : z1 ≠ 0) (hv : x2 * z1 % p = x1 * z2 % p) (hu : y2 * z1 % p = y1 * z2 % p) : addI p (x1, y1, z1) (x2, y2, z2) = dblI p (x1, y1, z1) := by
  unfold addI; rw [if_neg h, if_neg k, if_pos hv, if_pos hu]
theorem addI_inf (h : z2 ≠ 0) (k : z1 ≠ 0) (hv : x2 * z1 % p = x1 * z2 % p) (hu : y2 * z1 % p ≠ y1 * z2 % p) : addI p (x1, y1, z1) (x2, y2, z2) = (1, 1, 0) := by
  unfold addI; rw [if_neg h, if_neg k, if_pos hv, if_neg hu]
theorem addI_gen (h : z2 ≠ 0) (k : z1 ≠ 0) (hv : x2 * z1 % p ≠ x1 * z2 % p) : addI p (x1, y1, z1) (x2, y2, z2) = addG p (x1, y1, z1) (x2, y2, z2) := by
  unfold addI; rw [if_neg h, if_neg k, if_neg hv]
end

theorem Spec.useForm {w : World} {f : Addr} {vs : List Value} {news : Led} {dn un : Nat} {p : Int} {r : Tri} {mg mb : Str → Option Value}
    {g₀ : Heap} {L : Addr} {m : Str → Option Value} {A : Around} {s : Shared} {Q E : Value → Shared → Prop}
    (N : News g₀ L s.heap news) (F : Fr g₀ L s.heap m) (X : (hd.heap_1 w.params).In g₀) (T : TR mg mb g₀) (hh : A.handled = none)
    (S : Spec w f vs news dn un (fun led v => FormIn led v p r)) (hdp : A.depth + dn < recursionLimit) (hun : A.units + un < cLine)
    (h : ∀ z h' tk' led, Fr g₀ L h' m → News g₀ L h' led → (∀ q ∈ news, q ∈ led) → FormIn led (.ref z) p r → Q (.ref z) { s with heap := h', toks := tk' }) :
    wpAny (MM w) A (call (.ref f) vs) Q E s := by
  refine S.use F N X T hh hdp hun fun v h' tk' led F' N' hs P => ?_
  obtain ⟨z, rfl⟩ := FormIn.isRef P
  exact h z h' tk' led F' N' hs P

/-- the quotient of a and b -/
def DivIn (led : Led) (v : Value) (p a b : Int) : Prop := ∃ r, 0 ≤ r ∧ r < p ∧ (b * r) % p = 1 ∧ FQin led v p (a * r % p)
theorem DivIn.mono {news news' : Led} {v : Value} {p a b : Int} (h : DivIn news v p a b) (k : ∀ q ∈ news, q ∈ news') : DivIn news' v p a b := by
  obtain ⟨r, h1, h2, h3, h4⟩ := h
  exact ⟨r, h1, h2, h3, h4.mono k⟩
def PairIn (led : Led) (v : Value) (p : Int) (f : Tri) : Prop :=
  ∃ t x y, v = .ref t ∧ (t, tupObj [.ref x, .ref y]) ∈ led ∧ DivIn led (.ref x) p f.1 f.2.2 ∧ DivIn led (.ref y) p f.2.1 f.2.2
theorem PairIn.mono {news news' : Led} {v : Value} {p : Int} {f : Tri} (h : PairIn news v p f) (k : ∀ q ∈ news, q ∈ news') : PairIn news' v p f := by
  obtain ⟨t, x, y, e, m, A, B⟩ := h
  exact ⟨t, x, y, e, k _ m, A.mono k, B.mono k⟩
def negI (p : Int) (f : Tri) : Tri := (f.1, -f.2.1 % p, f.2.2)
def onI (p : Int) (f : Tri) (b : Int) : Prop :=
  f.2.2 = 0 ∨ (f.2.1 * f.2.1 % p * f.2.2 % p - f.1 * f.1 % p * f.1 % p) % p = b * (f.2.2 * f.2.2 % p * f.2.2 % p) % p
def eqI (p : Int) (f g : Tri) : Prop := f.1 * g.2.2 % p = g.1 * f.2.2 % p ∧ f.2.1 * g.2.2 % p = g.2.1 * f.2.2 % p
section
variable {M : Model} {A : Around} {E : Value → Shared → Prop} {s : Shared} {h₀ : Heap} {L a : Addr} {m : Str → Option Value} {cn : Str} {cs : Scope} {ccd : Value} {cl : List (Str × Addr)}
theorem storeN_ {x : Str} {v v' : Value} {Q : Unit → Shared → Prop} {news : Led} {gs : Array GenState} {dr : Drawn} {os : OsState}
    (F : Fr h₀ L s.heap m) (N : News h₀ L s.heap news) (e1 : v = v') (e2 : s.gens = gs) (e3 : s.drawn = dr) (e4 : s.os = os)
    (h : ∀ h' tk', Fr h₀ L h' (fun y => if y = x then some v' else m y) → News h₀ L h' news → Q () ⟨h', gs, dr, tk', os⟩)
    (hk : cs.kind = .function := by rfl) (hx : (envX cn cs L a ccd cl).kindOf x = some .local := by rfl) : wpAny M A (storeName (envX cn cs L a ccd cl) x v) Q E s := by
  subst e1; subst e2; subst e3; subst e4
  exact storeX_L F N (fun h' F' N' => h h' _ F' N') hk hx
end
section
variable {prog : Program} {w : World} {M : Model} {A : Around} {E Q : Value → Shared → Prop} {h : Heap} {gs : Array GenState} {dr : Drawn} {tk : Nat} {os : OsState} {a b : Int} {t u : Tok}
theorem constF {k : Nat} {pos : Pos} {env : Env} (H : Q (.int a tk) ⟨h, gs, dr, tk + 1, os⟩) : wpAny M A (eval (.Constant (.int a) k pos) env) Q E ⟨h, gs, dr, tk, os⟩ := wpAny_Constant_int H
theorem addF (H : Q (.int (a + b) tk) ⟨h, gs, dr, tk + 1, os⟩) : wpAny (model prog w) A (binaryOp .Add (.int a t) (.int b u)) Q E ⟨h, gs, dr, tk, os⟩ := add_int H
theorem subF (H : Q (.int (a - b) tk) ⟨h, gs, dr, tk + 1, os⟩) : wpAny (model prog w) A (binaryOp .Sub (.int a t) (.int b u)) Q E ⟨h, gs, dr, tk, os⟩ := sub_int H
theorem mulF (H : Q (.int (a * b) tk) ⟨h, gs, dr, tk + 1, os⟩) (hm : IntMulOk a b) : wpAny (model prog w) A (binaryOp .Mult (.int a t) (.int b u)) Q E ⟨h, gs, dr, tk, os⟩ := mul_int H hm
end
def plain1 (t : Lean.Syntax) : Lean.MacroM Lean.Syntax := t.replaceM fun s => do
  if s.isOfKind `Lean.Parser.Term.hole then return some (← `(term| (by assumption)))
  if s.isOfKind `Lean.Parser.Term.tuple then return some (← `(term| (by tb_rel)))
  if s.isOfKind `«term[_]» then return some (← `(term| (by k_dflt assumption)))
  return none
local macro_rules
  | `(tactic| o_head ⟨$f⟩) => do
    let f : Lean.TSyntax `term := ⟨← plain1 f⟩
    let `(term| $h:ident $as*) := f | Lean.Macro.throwUnsupported
    `(tactic| ((with_reducible refine $h $as* ?hr ?hu ?_); (case hr => ktr_room); (case hu => ktr_room)))
  | `(tactic| o_head [$f]) => do
    let f : Lean.TSyntax `term := ⟨← plain1 f⟩
    let `(term| $h:ident $as*) := f | Lean.Macro.throwUnsupported
    `(tactic| (with_reducible refine $h $as* ?_))
  | `(tactic| o_head ⟨$f, 1⟩) => do
    let f : Lean.TSyntax `term := ⟨← plain1 f⟩
    let `(term| $h:ident $as*) := f | Lean.Macro.throwUnsupported
    `(tactic| ((with_reducible refine $h $as* ?hr ?_); (case hr => ktr_room)))
  | `(tactic| o_head $t / [$ts,*]) => do
    let mut ns : Array Lean.Ident := #[]
    let mut cs : Array (Lean.TSyntax `tactic) := #[]
    for s in ts.getElems do
      let n := Lean.mkIdent (← Lean.Macro.addMacroScope (Lean.Name.mkSimple s!"y{ns.size}"))
      ns := ns.push n
      let c ← match s with
        | `(term| 1) => `(tactic| k_asm)
        | `(term| 2) => `(tactic| k_mem)
        | `(term| 3) => `(tactic| exact rfl)
        | `(term| 4) => `(tactic| first | exact rfl | assumption)
        | `(term| 5) => `(tactic| decide)
        | `(term| 6) => `(tactic| omega)
        | `(term| 7) => `(tactic| assumption)
        | `(term| 8) => `(tactic| tb_rel)
        | `(term| 9) => `(tactic| ktr_room)
        | `(term| 10) => `(tactic| rfl)
        | `(term| 11) => `(tactic| with_reducible assumption)
        | `(term| 12) => `(tactic| k_dflt assumption)
        | `(term| 13) => `(tactic| dsimp only)
        | `(term| by $q:tacticSeq) => `(tactic| ($q))
        | _ => Lean.Macro.throwUnsupported
      cs := cs.push (← `(tactic| case $n:ident => $c:tactic))
    let u : Lean.TSyntax `term := ⟨← t.raw.replaceM fun s => match s.isNatLit? with
      | some k => do return some (← `(term| ?$(ns[k]!)))
      | none => return none⟩
    `(tactic| (refine' $u; $[$cs:tactic];*))
  | `(tactic| o_head $n:num) => `(tactic| (with_reducible show wpAny _ _ (call (Value.ref $n) _) _ _ _))
  | `(tactic| o_head ($n:num, $f)) => `(tactic| (k_here; k_dflt (o_head $n; o_head ⟨$f⟩; intros)))
  | `(tactic| o_head ($f)) => `(tactic| (k_here; k_dflt (o_head ⟨$f⟩; intros)))
  | `(tactic| o_head $n:num * ($f)) => `(tactic| (k_here; k_dflt (o_head $n; o_head ⟨$f⟩; intro v9 h9 tk9 F9 N9 P9; obtain ⟨b9, e9, P9⟩ := P9; subst e9)))
  | `(tactic| o_head $f:ident + 1) => `(tactic| ((refine' $f ?a9 ?b9); (case b9 => with_reducible assumption); (case a9 => tb_rel)))
  | `(tactic| o_head $f:ident + 2) => `(tactic| ((refine' $f ?a9 ?b9); (case b9 => assumption); (case a9 => tb_rel)))
  | `(tactic| o_head $f:ident + 3) => `(tactic| ((refine' $f ?a9 ?b9); (case b9 => with_reducible exact sub_new); (case a9 => tb_rel)))
  | `(tactic| o_head $f:ident + 4) => `(tactic| ((refine' $f ?a9 ?b9); (case b9 => exact sub_new); (case a9 => tb_rel)))
  | `(tactic| o_head $t - $f:ident - $g:ident) => `(tactic| ((with_reducible show $t); first | with_reducible assumption | o_head $f:ident + 1 | o_head $g:ident + 1 | o_head $f:ident + 3 | fail "tb_rel"))
  | `(tactic| o_head $t - $f:ident) => `(tactic| ((with_reducible show $t); first | assumption | o_head $f:ident + 2 | o_head $f:ident + 4 | fail "tb_rel"))
local macro_rules | `(tactic| tb_rel) => `(tactic| first | assumption | o_head FQin.mono + 2 | o_head FQin.mono + 4 | fail "tb_rel")
local macro_rules | `(tactic| tb_start) => `(tactic| first | assumption | exact sub_refl | exact sub_left | (o_head sub_trans 1 0 / [7, by tb_start]) | (o_head sub_cons 0 / [by tb_start]) | fail "tb_start")
local macro_rules | `(tactic| ktr_room) => `(tactic| ((try simp only [depth_deeper, depth_in1, units_deeper, units_in1]); omega))
local macro_rules | `(tactic| walk_at "getAttr ref") => `(tactic| (k_here; k_dflt (first | o_head [fq_attr_n _ _ _ ()] | o_head [fq_attr_mod _ _ _ ()]); intros))
local macro_rules | `(tactic| walk_at "call builtin:isinstance") => `(tactic| (k_here; k_dflt o_head [fq_isinst _ _ _ ()]))
local macro_rules | `(tactic| walk_at "getMethod ref") => `(tactic| (k_here; k_dflt (first
  | o_head [fq_meth_made _ _ _ ()]
  | o_head [fq_meth_one _ _ _ ()]
  | o_head [fq_meth_zero _ _ _ ()])))
local macro_rules | `(tactic| walk_at "call ref") => `(tactic| (k_here; k_dflt (o_head 242; o_head ⟨fq_new _ _ _ _ _, 1⟩; intros)))
local macro_rules | `(tactic| walk_at "call ref") => `(tactic| first | o_head (225, Spec.useFQ _ _ _ _ [] (spec_made _ ())) | o_head (232, Spec.useFQ _ _ _ _ [] (spec_one _ ())) | o_head (239, Spec.useFQ _ _ _ _ [] (spec_zero _ ())))
local macro_rules | `(tactic| walk_at "binaryOp Mult ref") => `(tactic| first | o_head (fq_mul _ _ _ _ _ () () []) | o_head (fq_mulI _ _ _ _ _ _ () []))
local macro_rules | `(tactic| walk_at "binaryOp Mult int ref") => `(tactic| o_head (fq_rmul _ (sm_small (by decide)) _ _ _ _ () []))
local macro_rules | `(tactic| walk_at "binaryOp Sub ref") => `(tactic| o_head (fq_sub _ _ _ _ _ () () []))
local macro_rules | `(tactic| walk_at "unaryOp USub") => `(tactic| o_head (fq_neg _ _ _ _ _ () []))
local macro_rules | `(tactic| walk_at "compareOp Eq ref") => `(tactic| o_head (fq_eq _ _ _ _ () () []))
local macro_rules | `(tactic| walk_at "assign Tuple") => `(tactic| (k_here; (with_reducible show wpAny _ _ (assign (Expr.Tuple _ _ _) _ (Value.ref _)) _ _ _); k_dflt (o_head unpackN_ 0 1 2 3 4 5 ?_ / [1, 1, by exact News.isTup (by k_asm) (by k_mem), 4, 3, 3]; k_whole); intros))
local macro_rules | `(tactic| k_mem) => `(tactic| first | assumption | (o_head mem_of_sub 1 0 / [7, 2]) | fail "k_mem")
local macro_rules | `(tactic| tb_rel) => `(tactic| o_head FormIn _ _ _ _ - FormIn.mono)
local macro_rules | `(tactic| walk_at "unpackItems ref") => `(tactic| (k_here; k_dflt (o_head unpackItemsN_ 0 1 2 3 4 ?_ / [1, 1, by exact News.isTup (by k_asm) (by k_mem), 4, 3]; k_whole); intros))
local macro_rules | `(tactic| mul_fits) => `(tactic| exact Sm.mulOk (B := 512) (C := 512) (by first | assumption | exact FQin.sm (by assumption) (by assumption) | exact Md.sm_of (by assumption) (by assumption) (by assumption)) (by first | assumption | exact FQin.sm (by assumption) (by assumption) | exact Md.sm_of (by assumption) (by assumption) (by assumption)) (by decide))
local macro_rules | `(tactic| tb_rel) => `(tactic| o_head DivIn _ _ _ _ _ - DivIn.mono)
local macro_rules | `(tactic| walk_at "storeName") => `(tactic| (k_here; k_dflt (o_head storeN_ 2 3 4 5 6 7 ?_ 0 1 / [10, 10, 1, 1, 13, 13, 13, 13]; k_whole; intro h' tk9 F' N'; (try k_sweep))))
local macro_rules | `(tactic| walk_at "eval Constant int") => `(tactic| (k_here; with_reducible refine constF ?_))
local macro_rules | `(tactic| walk_at "binaryOp Add int int") => `(tactic| (k_here; with_reducible refine addF ?_))
local macro_rules | `(tactic| walk_at "binaryOp Sub int int") => `(tactic| (k_here; with_reducible refine subF ?_))
local macro_rules | `(tactic| walk_at "binaryOp Mult int int") => `(tactic| (k_here; with_reducible refine mulF ?_ (by mul_fits)))

section
variable {w : World} {news : Led} {t : Addr} {p : Int} {f : Tri}
theorem spec_dbl1 (hp : Md p) (hx : FormIn news (.ref t) p f) : Spec w 42 [.ref t] news 20 100 (fun led v => FormIn led v p (dblI p f)) := by
  obtain ⟨x, y, z⟩ := f
  obtain ⟨t, a, b, c, e, mt, P1, P2, P3⟩ := hx
  cases e
  dsimp only at P1 P2 P3
  refine spec_def (by k_is) (by k_is) (fun _ => BindsTo.of_eq rfl) (locs rfl) ?_ rfl rfl rfl (by decide) (by kernel_rfl)
  intro mg mb g h₁ L' A s F N X T hh hd hu tk0 Q0 hQ0
  w_strict k_steps
  all_goals (refine hQ0 _ _ (back_ (by assumption) (by assumption) (by tb_start) ⟨_, _, _, _, rfl, .head _, ?_, ?_, ?_⟩) <;> dsimp only [dblI] <;> tb_rel)
theorem spec_dbl2 (hp : Md p) (hx : FormIn news (.ref t) p f) : Spec w 267 [.ref t] news 20 100 (fun led v => FormIn led v p (dblI p f)) := by
  obtain ⟨x, y, z⟩ := f
  obtain ⟨t, a, b, c, e, mt, P1, P2, P3⟩ := hx
  cases e
  dsimp only at P1 P2 P3
  refine spec_def (by k_is) (by k_is) (fun _ => BindsTo.of_eq rfl) (locs rfl) ?_ rfl rfl rfl (by decide) (by kernel_rfl)
  intro mg mb g h₁ L' A s F N X T hh hd hu tk0 Q0 hQ0
  w_strict k_steps
  all_goals (refine hQ0 _ _ (back_ (by assumption) (by assumption) (by tb_start) ⟨_, _, _, _, rfl, .head _, ?_, ?_, ?_⟩) <;> dsimp only [dblI] <;> tb_rel)
end
local macro_rules | `(tactic| walk_at "call ref") => `(tactic| first | o_head (42, Spec.useForm _ _ _ _ [] (spec_dbl1 _ ())) | o_head (267, Spec.useForm _ _ _ _ [] (spec_dbl2 _ ())))

section
variable {w : World} {news : Led} {t1 t2 : Addr} {p : Int} {f g : Tri}
theorem spec_add1 (hp : Md p) (hx : FormIn news (.ref t1) p f) (hy : FormIn news (.ref t2) p g) : Spec w 49 [.ref t1, .ref t2] news 30 150 (fun led v => FormIn led v p (addI p f g)) := by
  have hx' := hx
  have hy' := hy
  obtain ⟨x1, y1, z1⟩ := f
  obtain ⟨x2, y2, z2⟩ := g
  obtain ⟨t, a, b, c, e, mt, P1, P2, P3⟩ := hx
  cases e
  obtain ⟨t, a', b', c', e, mt', P1', P2', P3'⟩ := hy
  cases e
  dsimp only at P1 P2 P3 P1' P2' P3'
  refine spec_def (by k_is) (by k_is) (fun _ => BindsTo.of_eq rfl) (locs rfl) ?_ rfl rfl rfl (by decide) (by kernel_rfl)
  intro mg mb g h₁ L' A s F N X T hh hd hu tk0 Q0 hQ0
  w_strict k_steps
  all_goals try dsimp only
  all_goals refine hQ0 _ _ (back_ (by assumption) (by assumption) (by tb_start) ?_)
  all_goals first
    | (rw [addI_r1 (by first | assumption | rfl)]; tb_rel)
    | (rw [addI_r2 (by first | assumption | rfl) (by first | assumption | rfl)]; tb_rel)
    | (rw [addI_dbl (by assumption) (by assumption) (by assumption) (by assumption)]; tb_rel)
    | (rw [addI_inf (by assumption) (by assumption) (by assumption) (by assumption)]; exact ⟨_, _, _, _, rfl, .head _, by tb_rel, by tb_rel, by tb_rel⟩)
    | (rw [addI_gen (by assumption) (by assumption) (by assumption)]; refine ⟨_, _, _, _, rfl, .head _, ?_, ?_, ?_⟩ <;> dsimp only [addG] <;> tb_rel)
    | (exfalso; omega)
theorem spec_add2 (hp : Md p) (hx : FormIn news (.ref t1) p f) (hy : FormIn news (.ref t2) p g) : Spec w 274 [.ref t1, .ref t2] news 30 150 (fun led v => FormIn led v p (addI p f g)) := by
  have hx' := hx
  have hy' := hy
  obtain ⟨x1, y1, z1⟩ := f
  obtain ⟨x2, y2, z2⟩ := g
  obtain ⟨t, a, b, c, e, mt, P1, P2, P3⟩ := hx
  cases e
  obtain ⟨t, a', b', c', e, mt', P1', P2', P3'⟩ := hy
  cases e
  dsimp only at P1 P2 P3 P1' P2' P3'
  refine spec_def (by k_is) (by k_is) (fun _ => BindsTo.of_eq rfl) (locs rfl) ?_ rfl rfl rfl (by decide) (by kernel_rfl)
  intro mg mb g h₁ L' A s F N X T hh hd hu tk0 Q0 hQ0
  w_strict k_steps
  all_goals try dsimp only
  all_goals refine hQ0 _ _ (back_ (by assumption) (by assumption) (by tb_start) ?_)
  all_goals first
    | (rw [addI_r1 (by first | assumption | rfl)]; tb_rel)
    | (rw [addI_r2 (by first | assumption | rfl) (by first | assumption | rfl)]; tb_rel)
    | (rw [addI_dbl (by assumption) (by assumption) (by assumption) (by assumption)]; tb_rel)
    | (rw [addI_inf (by assumption) (by assumption) (by assumption) (by assumption)]; exact ⟨_, _, _, _, rfl, .head _, by tb_rel, by tb_rel, by tb_rel⟩)
    | (rw [addI_gen (by assumption) (by assumption) (by assumption)]; refine ⟨_, _, _, _, rfl, .head _, ?_, ?_, ?_⟩ <;> dsimp only [addG] <;> tb_rel)
    | (exfalso; omega)
end
local macro_rules | `(tactic| walk_at "call ref") => `(tactic| first | o_head (49, Spec.useForm _ _ _ _ [] (spec_add1 _ () ())) | o_head (274, Spec.useForm _ _ _ _ [] (spec_add2 _ () ())))

section
variable {w : World} {news : Led} {x y : Addr} {p m n k : Int} {t : Tok}
theorem FQin.self {led : Led} {v : Value} (P : FQin led v p n) : n % p = n := Int.emod_eq_of_lt P.1.1 P.1.2
theorem spec_pow1 (hp : Md p) (hx : FQin news (.ref x) p m) (hk : k = 1) : Spec w 168 [.ref x, .int k t] news 8 40 (fun led v => FQin led v p m) := by
  subst hk
  refine spec_def (by k_is) (by k_is) (fun _ => BindsTo.of_eq rfl) (locs rfl) ?_ rfl rfl rfl (by decide) (by kernel_rfl)
  intro mg mb g h₁ L' A s F N X T hh hd hu tk0 Q0 hQ0
  have e := hx.self
  w_strict k_steps
  all_goals exact hQ0 _ _ (back_ (by assumption) (by assumption) (by tb_start) (by rw [← e]; assumption))
end
section
variable {w : World} {mg mb : Str → Option Value} {led : Led} {g₀ : Heap} {L : Addr} {m : Str → Option Value} {A : Around} {s : Shared} {Q E : Value → Shared → Prop} {a b p k : Int} {x y : Addr} {t : Tok}
theorem fq_pow1 (hp : Md p) (F : Fr g₀ L s.heap m) (X : (hd.heap_1 w.params).In g₀) (T : TR mg mb g₀) (N : News g₀ L s.heap led) (P : FQin led (.ref x) p a) (hk : k = 1)
    (hh : A.handled = none) (hdp : A.depth + 8 < recursionLimit) (hun : A.units + 40 < cLine)
    (h : ∀ z h' tk' led', Fr g₀ L h' m → News g₀ L h' led' → (∀ q ∈ led, q ∈ led') → FQin led' (.ref z) p a → Q (.ref z) { s with heap := h', toks := tk' }) :
    wpAny (MM w) A (binaryOp .Pow (.ref x) (.int k t)) Q E s := by
  obtain ⟨dx, h1, h2, t1, t2, u1, u2, I⟩ := P.inst N
  refine ksp_binT (T := "int") F X I rfl (by k_is) (by k_is) (by k_is) (by k_is) (.inl rfl) (by k_is) (by k_is) (by k_is) ?_
  exact Spec.useFQ N F X T hh (spec_pow1 hp P hk) hdp hun fun z h' tk' led' F' N' hs P9 => h z h' tk' led' F' N' hs P9
end
local macro_rules | `(tactic| walk_at "binaryOp Pow ref") => `(tactic| o_head (fq_pow1 _ _ _ _ _ () (by decide) []))
section
variable {w : World} {news : Led} {x y : Addr} {p m n k : Int} {t : Tok}
theorem spec_pow2 (hp : Md p) (hx : FQin news (.ref x) p m) : Spec w 168 [.ref x, .int 2 t] news 12 60 (fun led v => FQin led v p (m * m % p)) := by
  refine spec_def (by k_is) (by k_is) (fun _ => BindsTo.of_eq rfl) (locs rfl) ?_ rfl rfl rfl (by decide) (by kernel_rfl)
  intro mg mb g h₁ L' A s F N X T hh hd hu tk0 Q0 hQ0
  w_strict k_steps
  all_goals exact hQ0 _ _ (back_ (by assumption) (by assumption) (by tb_start) (by assumption))
theorem spec_pow3 (hp : Md p) (hx : FQin news (.ref x) p m) : Spec w 168 [.ref x, .int 3 t] news 12 60 (fun led v => FQin led v p (m * m % p * m % p)) := by
  refine spec_def (by k_is) (by k_is) (fun _ => BindsTo.of_eq rfl) (locs rfl) ?_ rfl rfl rfl (by decide) (by kernel_rfl)
  intro mg mb g h₁ L' A s F N X T hh hd hu tk0 Q0 hQ0
  w_strict k_steps
  all_goals exact hQ0 _ _ (back_ (by assumption) (by assumption) (by tb_start) (by assumption))
end
section
variable {w : World} {mg mb : Str → Option Value} {led : Led} {g₀ : Heap} {L : Addr} {m : Str → Option Value} {A : Around} {s : Shared} {Q E : Value → Shared → Prop} {a b p k : Int} {x y : Addr} {t : Tok}
theorem fq_pow2 (hp : Md p) (F : Fr g₀ L s.heap m) (X : (hd.heap_1 w.params).In g₀) (T : TR mg mb g₀) (N : News g₀ L s.heap led) (P : FQin led (.ref x) p a)
    (hh : A.handled = none) (hdp : A.depth + 12 < recursionLimit) (hun : A.units + 60 < cLine)
    (h : ∀ z h' tk' led', Fr g₀ L h' m → News g₀ L h' led' → (∀ q ∈ led, q ∈ led') → FQin led' (.ref z) p (a * a % p) → Q (.ref z) { s with heap := h', toks := tk' }) :
    wpAny (MM w) A (binaryOp .Pow (.ref x) (.int 2 t)) Q E s := by
  obtain ⟨dx, h1, h2, t1, t2, u1, u2, I⟩ := P.inst N
  refine ksp_binT (T := "int") F X I rfl (by k_is) (by k_is) (by k_is) (by k_is) (.inl rfl) (by k_is) (by k_is) (by k_is) ?_
  exact Spec.useFQ N F X T hh (spec_pow2 hp P) hdp hun fun z h' tk' led' F' N' hs P9 => h z h' tk' led' F' N' hs P9
theorem fq_pow3 (hp : Md p) (F : Fr g₀ L s.heap m) (X : (hd.heap_1 w.params).In g₀) (T : TR mg mb g₀) (N : News g₀ L s.heap led) (P : FQin led (.ref x) p a)
    (hh : A.handled = none) (hdp : A.depth + 12 < recursionLimit) (hun : A.units + 60 < cLine)
    (h : ∀ z h' tk' led', Fr g₀ L h' m → News g₀ L h' led' → (∀ q ∈ led, q ∈ led') → FQin led' (.ref z) p (a * a % p * a % p) → Q (.ref z) { s with heap := h', toks := tk' }) :
    wpAny (MM w) A (binaryOp .Pow (.ref x) (.int 3 t)) Q E s := by
  obtain ⟨dx, h1, h2, t1, t2, u1, u2, I⟩ := P.inst N
  refine ksp_binT (T := "int") F X I rfl (by k_is) (by k_is) (by k_is) (by k_is) (.inl rfl) (by k_is) (by k_is) (by k_is) ?_
  exact Spec.useFQ N F X T hh (spec_pow3 hp P) hdp hun fun z h' tk' led' F' N' hs P9 => h z h' tk' led' F' N' hs P9
end
local macro_rules | `(tactic| walk_at "binaryOp Pow ref") => `(tactic| first | o_head (fq_pow2 _ _ _ _ _ () []) | o_head (fq_pow3 _ _ _ _ _ () []))

structure PfJ (p a lm hm low high : Int) : Prop where
  h1 : 0 < low
  h2 : low < high
  g : Int.gcd low high = 1
  e1 : (lm * a - low) % p = 0
  e2 : (hm * a - high) % p = 0
  sg : (0 ≤ lm ∧ hm ≤ 0 ∧ lm * high + (-hm) * low = p) ∨ (lm ≤ 0 ∧ 0 ≤ hm ∧ (-lm) * high + hm * low = p)
theorem le_mul_pos {x y : Int} (hx : 0 ≤ x) (hy : 1 ≤ y) : x ≤ x * y := by
  have := Int.mul_le_mul_of_nonneg_left hy hx
  rwa [Int.mul_one] at this
theorem PfJ.bound {p a lm hm low high : Int} (h : PfJ p a lm hm low high) : lm.natAbs ≤ p.natAbs ∧ hm.natAbs ≤ p.natAbs := by
  have h1 := h.h1; have h2 := h.h2
  rcases h.sg with ⟨x, y, e⟩ | ⟨x, y, e⟩
  · have k1 := le_mul_pos x (y := high) (by omega)
    have k2 := le_mul_pos (x := -hm) (by omega) (y := low) (by omega)
    omega
  · have k1 := le_mul_pos (x := -lm) (by omega) (y := high) (by omega)
    have k2 := le_mul_pos y (y := low) (by omega)
    omega
theorem PfJ.low_lt {p a lm hm low high : Int} (h : PfJ p a lm hm low high) (hp : high ≤ p) : low < p := by have := h.h2; omega
theorem PfJ.next {p a lm hm low high : Int} (h : PfJ p a lm hm low high) (hl : 1 < low) :
    PfJ p a (hm - lm * (Int.fdiv high low)) lm (high - low * (Int.fdiv high low)) low ∧ (high - low * (Int.fdiv high low)).toNat < low.toNat := by
  have h1 := h.h1; have h2 := h.h2
  rw [Int.fdiv_eq_ediv_of_nonneg _ (Int.le_of_lt h1)]
  have em : high - low * (high / low) = high % low := by
    have := Int.emod_add_mul_ediv high low; omega
  have m0 := Int.emod_nonneg high (Int.ne_of_gt h1)
  have m1 := Int.emod_lt_of_pos high h1
  have q0 : 0 ≤ high / low := Int.ediv_nonneg (by omega) (by omega)
  have gg : Int.gcd (high % low) low = 1 := by
    have := h.g
    rw [Int.gcd_comm] at this
    rw [← em, Int.gcd_sub_mul_left_left]
    exact this
  have mz : high % low ≠ 0 := by
    intro z
    rw [z, Int.gcd_zero_left] at gg
    omega
  rw [em]
  refine ⟨⟨by omega, m1, gg, ?_, h.e1, ?_⟩, by omega⟩
  · have e1 := Int.dvd_of_emod_eq_zero h.e1
    have e2 := Int.dvd_of_emod_eq_zero h.e2
    have : (hm - lm * (high / low)) * a - high % low = (hm * a - high) - (lm * a - low) * (high / low) := by
      rw [← em, Int.sub_mul, Int.sub_mul, Int.mul_right_comm lm]
      omega
    rw [this]
    exact Int.emod_eq_zero_of_dvd (Int.dvd_sub e2 (Int.dvd_mul_of_dvd_left e1))
  · have t : ∀ x : Int, x * low * (high / low) = x * high - x * (high % low) := fun x => by
      rw [Int.mul_assoc, ← Int.mul_sub]; congr 1; omega
    rcases h.sg with ⟨x, y, e⟩ | ⟨x, y, e⟩
    · refine .inr ⟨?_, x, ?_⟩
      · have := Int.mul_nonneg x q0; omega
      · have := t lm
        rw [Int.neg_sub, Int.sub_mul, Int.mul_right_comm]
        rw [Int.neg_mul] at e
        omega
    · refine .inl ⟨?_, x, ?_⟩
      · have := Int.mul_nonneg (a := -lm) (by omega) q0
        rw [Int.neg_mul] at this
        omega
      · have := t lm
        rw [Int.sub_mul, Int.mul_right_comm]
        rw [Int.neg_mul] at e ⊢
        omega
theorem PfJ.start {p a : Int} (h0 : 0 < a) (h1 : a < p) (hg : Int.gcd a p = 1) : PfJ p a 1 0 a p :=
  ⟨h0, h1, hg, by rw [Int.one_mul, Int.sub_self, Int.zero_emod], by rw [Int.zero_mul, Int.zero_sub]; simp, .inl ⟨by decide, by decide, by omega⟩⟩
theorem PfJ.done {p a lm hm low high : Int} (h : PfJ p a lm hm low high) (hp : 1 < p) (hl : ¬ 1 < low) : 0 ≤ lm % p ∧ lm % p < p ∧ (a * (lm % p)) % p = 1 := by
  have h1 := h.h1
  have e : low = 1 := by omega
  refine ⟨Int.emod_nonneg _ (by omega), Int.emod_lt_of_pos _ (by omega), ?_⟩
  have e1 := h.e1
  rw [e] at e1
  have : (lm * a) % p = 1 % p := Int.emod_eq_emod_iff_emod_sub_eq_zero.mpr e1
  rw [Int.mul_comm, Int.mul_emod, Int.emod_emod_of_dvd _ (Int.dvd_refl _), ← Int.mul_emod, this]
  exact Int.emod_eq_of_lt (by decide) hp

local macro_rules | `(tactic| walk_at "eval Name") => `(tactic| (k_here; k_dflt (o_head nameX_L 0 3 ?_ 1 2 / [1, 10, 10, by first | rfl | assumption]; k_whole)))
theorem Sm.noPy {a b : Int} (h : Sm 512 b) : Builtin.divisionGoesByPylong a b = false := by
  refine PyProof.noPylong_of_log2 ?_
  by_cases h0 : b.natAbs = 0
  · rw [h0]; decide +kernel
  · exact Nat.lt_trans ((Nat.log2_lt h0).mpr h) (by decide)
local macro_rules | `(tactic| walk_at "binaryOp FloorDiv int int") => `(tactic| (k_here; (with_reducible refine floordiv_int ?kbe ?_ (Or.inl (Sm.noPy ?kbp))); (case kbe => assumption); (case kbp => assumption)))
section
variable {w : World} {news : Led} {p a : Int} {t u : Tok}
theorem whileStep2_next {h₀ h' : Heap} {L : Addr} {s : Shared} {J : Nat → (Str → Option Value) → Led → Prop} {Q : Flow → Shared → Prop} {n n' tk : Nat} {m₂ : Str → Option Value} {news₂ : Led}
    (F : Fr h₀ L h' m₂) (N : News h₀ L h' news₂) (hn : n' < n) (hJ : J n' m₂ news₂) : WhileStep2 h₀ L s J Q n .next { s with heap := h', toks := tk } :=
  ⟨h', tk, m₂, news₂, n', rfl, F, N, hn, hJ⟩
def PfM (news : Led) (p a : Int) (n : Nat) (m : Str → Option Value) (led : Led) : Prop :=
  (∀ q ∈ news, q ∈ led) ∧
  ∃ lm hm low high t1 t2 t3 t4 t5, m (Str.ofString "lm") = some (.int lm t1) ∧ m (Str.ofString "hm") = some (.int hm t2) ∧ m (Str.ofString "low") = some (.int low t3) ∧
    m (Str.ofString "high") = some (.int high t4) ∧ m (Str.ofString "n") = some (.int p t5) ∧ PfJ p a lm hm low high ∧ high ≤ p ∧ n = low.toNat
theorem spec_pfi (hp : Md p) (h0 : 0 < a) (h1 : a < p) (hg : Int.gcd a p = 1) : Spec w 84 [.int a t, .int p u] news 5 40 (fun _ v => ∃ r t, v = .int r t ∧ 0 ≤ r ∧ r < p ∧ (a * r) % p = 1) := by
  refine spec_def (by k_is) (by k_is) (fun _ => BindsTo.of_eq rfl) (locs rfl) ?_ rfl rfl rfl (by decide) (by kernel_rfl)
  intro mg mb g h₁ L' A s F N X T hh hd hu tk0 Q0 hQ0
  have hp0 := hp.ne
  have ea : Int.fmod a p = a := by rw [fmod_pos hp]; exact Int.emod_eq_of_lt (Int.le_of_lt h0) h1
  have ha0 : a ≠ 0 := Int.ne_of_gt h0
  w_strict (repeat' ((fail_if_success (with_reducible show wpAny _ _ (exec (Stmt.While _ _ _ _) _) _ _ _)); (first | (k_unfold; (try dsimp only)) | (k_end; wrow_close) | walk1 | (dsimp only; walk1) | (leave1; try dsimp only))))
  · exact absurd (ea.symm.trans (by assumption)) ha0
  have js : PfJ p a 1 0 (Int.fmod (Int.fmod a p) p) p := by rw [ea, ea]; exact PfJ.start h0 h1 hg
  refine While_inv2 (PfM news p a) (n₀ := (Int.fmod (Int.fmod a p) p).toNat) (by assumption) (by assumption) ⟨by tb_start, 1, 0, Int.fmod (Int.fmod a p) p, p, _, _, _, _, _, rfl, rfl, rfl, rfl, rfl, js, Int.le_refl _, rfl⟩ ?_
  intro n m₁ news₁ h₁ tk₁ F₁ N₁ J₁
  obtain ⟨hsub, lm, hm, low, high, t1, t2, t3, t4, t5, b1, b2, b3, b4, b5, J, hle, hn⟩ := J₁
  have k1 := J.h1
  have k2 : low ≠ 0 := Int.ne_of_gt k1
  have bl := J.bound
  have s1 : Sm 512 lm := Nat.lt_of_le_of_lt bl.1 hp.2
  have s2 : Sm 512 low := hp.sm_of (Int.le_of_lt k1) (by have := J.h2; omega)
  have s3 : Sm 512 (Int.fdiv high low) := by
    rw [Int.fdiv_eq_ediv_of_nonneg _ (Int.le_of_lt k1)]
    have q0 : 0 ≤ high := by have := J.h2; omega
    exact Nat.lt_of_le_of_lt (Nat.le_trans (Int.natAbs_ediv_le_natAbs high low) (by omega)) hp.2
  have i1 := s1.mulOk s3
  have i2 := s2.mulOk s3
  have nx := fun hl => J.next hl
  w_strict k_steps
  · have hl9 : 1 < low := by assumption
    have hle9 : low ≤ p := by have := J.h2; omega
    refine whileStep2_next (by assumption) (by assumption) (hn ▸ (nx hl9).2) ?_
    exact ⟨by tb_start, _, _, _, _, _, _, _, _, _, rfl, rfl, rfl, rfl, b5, (nx hl9).1, hle9, rfl⟩
  · have hl9 : ¬ 1 < low := by first | assumption | omega
    have d9 := J.done hp.1 hl9
    rw [← fmod_pos hp] at d9
    exact hQ0 _ _ (back_ (by assumption) (by assumption) (by tb_start) ⟨_, _, rfl, d9⟩)
end

section
variable {w : World} {mg mb : Str → Option Value} {led : Led} {g₀ : Heap} {L : Addr} {m : Str → Option Value} {A : Around} {s : Shared} {Q E : Value → Shared → Prop} {a p : Int} {t u : Tok}
theorem call_pfi (N : News g₀ L s.heap led) (F : Fr g₀ L s.heap m) (X : (hd.heap_1 w.params).In g₀) (T : TR mg mb g₀) (hh : A.handled = none) (hp : Md p) (h0 : 0 < a) (h1 : a < p) (hg : Int.gcd a p = 1)
    (hdp : A.depth + 5 < recursionLimit) (hun : A.units + 40 < cLine)
    (h : ∀ r t h' tk', Fr g₀ L h' m → News g₀ L h' led → 0 ≤ r → r < p → (a * r) % p = 1 → Q (.int r t) { s with heap := h', toks := tk' }) :
    wpAny (MM w) A (call (.ref 84) [.int a t, .int p u]) Q E s :=
  Spec.use0 N F X T hh (spec_pfi hp h0 h1 hg) hdp hun fun v h' tk' F' N' ⟨r, t, e, a1, a2, a3⟩ => by subst e; exact h r t h' tk' F' N' a1 a2 a3
end
local macro_rules | `(tactic| walk_at "call ref") => `(tactic| o_head (84, call_pfi _ _ _ _ [] _ _ _ _))
section
variable {w : World} {news : Led} {x y t : Addr} {p m n : Int} {f g : Tri}
theorem spec_div (hp : Md p) (hx : FQin news (.ref x) p m) (hy : FQin news (.ref y) p n) (h0 : 0 < n) (hg : Int.gcd n p = 1) :
    Spec w 154 [.ref x, .ref y] news 10 60 (fun led v => DivIn led v p m n) := by
  refine spec_def (by k_is) (by k_is) (fun _ => BindsTo.of_eq rfl) (locs rfl) ?_ rfl rfl rfl (by decide) (by kernel_rfl)
  intro mg mb g h₁ L' A s F N X T hh hd hu tk0 Q0 hQ0
  have h1 := hy.1.2
  have hp0 := hp.ne
  w_strict k_steps
  all_goals exact hQ0 _ _ (back_ (by assumption) (by assumption) (by tb_start) ⟨_, by assumption, by assumption, by assumption, by rw [← fmm hp]; assumption⟩)
end
section
variable {w : World} {mg mb : Str → Option Value} {led : Led} {g₀ : Heap} {L : Addr} {m : Str → Option Value} {A : Around} {s : Shared} {Q E : Value → Shared → Prop} {a b p : Int} {x y : Addr} {t : Tok}
theorem fq_div (hp : Md p) (F : Fr g₀ L s.heap m) (X : (hd.heap_1 w.params).In g₀) (T : TR mg mb g₀) (N : News g₀ L s.heap led) (P : FQin led (.ref x) p a) (P' : FQin led (.ref y) p b)
    (h0 : 0 < b) (hg : Int.gcd b p = 1) (hh : A.handled = none) (hdp : A.depth + 10 < recursionLimit) (hun : A.units + 60 < cLine)
    (h : ∀ z h' tk' led', Fr g₀ L h' m → News g₀ L h' led' → (∀ q ∈ led, q ∈ led') → DivIn led' (.ref z) p a b → Q (.ref z) { s with heap := h', toks := tk' }) :
    wpAny (MM w) A (binaryOp .Div (.ref x) (.ref y)) Q E s := by
  obtain ⟨dx, h1, h2, t1, t2, u1, u2, I⟩ := P.inst N
  obtain ⟨dx', h1', h2', t1', t2', u1', u2', I'⟩ := P'.inst N
  refine binop_K F X I I'.type (by k_is) (by k_is) (by k_is) ?_
  refine (spec_div hp P P' h0 hg).use F N X T hh hdp hun fun v h' tk' led' F' N' hs P9 => ?_
  obtain ⟨r, r0, r1, r2, P8⟩ := id P9
  obtain ⟨z, rfl⟩ := FQin.isRef P8
  exact h z h' tk' led' F' N' hs P9
end
local macro_rules | `(tactic| walk_at "binaryOp Div ref") => `(tactic| o_head (fq_div _ _ _ _ _ () () _ _ []))

section
variable {w : World} {news : Led} {x y t t1 t2 : Addr} {p m n : Int} {f g : Tri}
theorem spec_neg1 (hp : Md p) (hx : FormIn news (.ref t) p f) : Spec w 77 [.ref t] news 12 80 (fun led v => FormIn led v p (negI p f)) := by
  obtain ⟨x, y, z⟩ := f
  obtain ⟨t, a, b, c, e, mt, P1, P2, P3⟩ := hx
  cases e
  dsimp only at P1 P2 P3
  refine spec_def (by k_is) (by k_is) (fun _ => BindsTo.of_eq rfl) (locs rfl) ?_ rfl rfl rfl (by decide) (by kernel_rfl)
  intro mg mb g h₁ L' A s F N X T hh hd hu tk0 Q0 hQ0
  w_strict k_steps
  all_goals (refine hQ0 _ _ (back_ (by assumption) (by assumption) (by tb_start) ⟨_, _, _, _, rfl, .head _, ?_, ?_, ?_⟩) <;> dsimp only [negI] <;> tb_rel)
theorem spec_norm1 (hp : Md p) (hx : FormIn news (.ref t) p f) (h0 : 0 < f.2.2) (hg : Int.gcd f.2.2 p = 1) :
    Spec w 70 [.ref t] news 15 80 (fun led v => PairIn led v p f) := by
  obtain ⟨x, y, z⟩ := f
  obtain ⟨t, a, b, c, e, mt, P1, P2, P3⟩ := hx
  cases e
  dsimp only at P1 P2 P3 h0 hg
  refine spec_def (by k_is) (by k_is) (fun _ => BindsTo.of_eq rfl) (locs rfl) ?_ rfl rfl rfl (by decide) (by kernel_rfl)
  intro mg mb g h₁ L' A s F N X T hh hd hu tk0 Q0 hQ0
  w_strict k_steps
  all_goals exact hQ0 _ _ (back_ (by assumption) (by assumption) (by tb_start) ⟨_, _, _, rfl, .head _, by tb_rel, by tb_rel⟩)
theorem spec_inf1 (hp : Md p) (hx : FormIn news (.ref t) p f) : Spec w 28 [.ref t] news 15 80 (fun _ v => v = .bool (f.2.2 == 0)) := by
  obtain ⟨x, y, z⟩ := f
  obtain ⟨t, a, b, c, e, mt, P1, P2, P3⟩ := hx
  cases e
  dsimp only at P1 P2 P3
  refine spec_def (by k_is) (by k_is) (fun _ => BindsTo.of_eq rfl) (locs rfl) ?_ rfl rfl rfl (by decide) (by kernel_rfl)
  intro mg mb g h₁ L' A s F N X T hh hd hu tk0 Q0 hQ0
  w_strict k_steps
  all_goals ((try dsimp only); exact hQ0 _ _ (back_ (by assumption) (by assumption) (by tb_start) rfl))
theorem spec_eqf1 (hp : Md p) (hx : FormIn news (.ref t1) p f) (hy : FormIn news (.ref t2) p g) : Spec w 63 [.ref t1, .ref t2] news 15 80 (fun _ v => ∃ b, v = .bool b ∧ (b = true ↔ eqI p f g)) := by
  obtain ⟨x1, y1, z1⟩ := f
  obtain ⟨x2, y2, z2⟩ := g
  obtain ⟨t, a, b, c, e, mt, P1, P2, P3⟩ := hx
  cases e
  obtain ⟨t, a', b', c', e, mt', P1', P2', P3'⟩ := hy
  cases e
  dsimp only at P1 P2 P3 P1' P2' P3'
  refine spec_def (by k_is) (by k_is) (fun _ => BindsTo.of_eq rfl) (locs rfl) ?_ rfl rfl rfl (by decide) (by kernel_rfl)
  intro mg mb g h₁ L' A s F N X T hh hd hu tk0 Q0 hQ0
  w_strict k_steps
  all_goals try dsimp only
  all_goals refine hQ0 _ _ (back_ (by assumption) (by assumption) (by tb_start) ⟨_, rfl, ?_⟩)
  all_goals (unfold eqI; simp only [beq_iff_eq])
  all_goals first | exact ⟨fun h => ⟨by assumption, h⟩, fun h => h.2⟩ | exact ⟨fun h => absurd h (by assumption), fun h => h.1⟩
end
section
variable {w : World} {mg mb : Str → Option Value} {led : Led} {g₀ : Heap} {L : Addr} {m : Str → Option Value} {A : Around} {s : Shared} {Q E : Value → Shared → Prop} {p : Int} {t : Addr} {f : Tri}
theorem call_inf1 (N : News g₀ L s.heap led) (F : Fr g₀ L s.heap m) (X : (hd.heap_1 w.params).In g₀) (T : TR mg mb g₀) (hh : A.handled = none) (hp : Md p) (hx : FormIn led (.ref t) p f)
    (hdp : A.depth + 15 < recursionLimit) (hun : A.units + 80 < cLine)
    (h : ∀ h' tk', Fr g₀ L h' m → News g₀ L h' led → Q (.bool (f.2.2 == 0)) { s with heap := h', toks := tk' }) :
    wpAny (MM w) A (call (.ref 28) [.ref t]) Q E s :=
  Spec.use0 N F X T hh (spec_inf1 hp hx) hdp hun fun v h' tk' F' N' e => by subst e; exact h h' tk' F' N'
end
local macro_rules | `(tactic| walk_at "call ref") => `(tactic| o_head (28, call_inf1 _ _ _ _ [] _ ()))
section
variable {w : World} {news : Led} {x t : Addr} {p b : Int} {f g : Tri}
theorem spec_on1 (hp : Md p) (hx : FormIn news (.ref t) p f) (hy : FQin news (.ref x) p b) : Spec w 35 [.ref t, .ref x] news 30 180 (fun _ v => ∃ c, v = .bool c ∧ (c = true ↔ onI p f b)) := by
  have hx' := hx
  obtain ⟨x, y, z⟩ := f
  obtain ⟨t, a, b, c, e, mt, P1, P2, P3⟩ := hx
  cases e
  dsimp only at P1 P2 P3
  refine spec_def (by k_is) (by k_is) (fun _ => BindsTo.of_eq rfl) (locs rfl) ?_ rfl rfl rfl (by decide) (by kernel_rfl)
  intro mg mb g h₁ L' A s F N X T hh hd hu tk0 Q0 hQ0
  w_strict k_steps
  all_goals try dsimp only
  all_goals refine hQ0 _ _ (back_ (by assumption) (by assumption) (by tb_start) ⟨_, rfl, ?_⟩)
  all_goals (unfold onI; simp only [beq_iff_eq])
  all_goals first | exact ⟨fun _ => .inl (by first | assumption | rfl), fun _ => by trivial⟩ | exact ⟨fun h => .inr h, fun h => h.resolve_left (by assumption)⟩
end
section
variable {w : World} {news : Led} {x y t t1 t2 : Addr} {p m n : Int} {f g : Tri}
theorem spec_neg2 (hp : Md p) (hx : FormIn news (.ref t) p f) : Spec w 302 [.ref t] news 12 80 (fun led v => FormIn led v p (negI p f)) := by
  obtain ⟨x, y, z⟩ := f
  obtain ⟨t, a, b, c, e, mt, P1, P2, P3⟩ := hx
  cases e
  dsimp only at P1 P2 P3
  refine spec_def (by k_is) (by k_is) (fun _ => BindsTo.of_eq rfl) (locs rfl) ?_ rfl rfl rfl (by decide) (by kernel_rfl)
  intro mg mb g h₁ L' A s F N X T hh hd hu tk0 Q0 hQ0
  w_strict k_steps
  all_goals (refine hQ0 _ _ (back_ (by assumption) (by assumption) (by tb_start) ⟨_, _, _, _, rfl, .head _, ?_, ?_, ?_⟩) <;> dsimp only [negI] <;> tb_rel)
theorem spec_norm2 (hp : Md p) (hx : FormIn news (.ref t) p f) (h0 : 0 < f.2.2) (hg : Int.gcd f.2.2 p = 1) :
    Spec w 295 [.ref t] news 15 80 (fun led v => PairIn led v p f) := by
  obtain ⟨x, y, z⟩ := f
  obtain ⟨t, a, b, c, e, mt, P1, P2, P3⟩ := hx
  cases e
  dsimp only at P1 P2 P3 h0 hg
  refine spec_def (by k_is) (by k_is) (fun _ => BindsTo.of_eq rfl) (locs rfl) ?_ rfl rfl rfl (by decide) (by kernel_rfl)
  intro mg mb g h₁ L' A s F N X T hh hd hu tk0 Q0 hQ0
  w_strict k_steps
  all_goals exact hQ0 _ _ (back_ (by assumption) (by assumption) (by tb_start) ⟨_, _, _, rfl, .head _, by tb_rel, by tb_rel⟩)
theorem spec_inf2 (hp : Md p) (hx : FormIn news (.ref t) p f) : Spec w 253 [.ref t] news 15 80 (fun _ v => v = .bool (f.2.2 == 0)) := by
  obtain ⟨x, y, z⟩ := f
  obtain ⟨t, a, b, c, e, mt, P1, P2, P3⟩ := hx
  cases e
  dsimp only at P1 P2 P3
  refine spec_def (by k_is) (by k_is) (fun _ => BindsTo.of_eq rfl) (locs rfl) ?_ rfl rfl rfl (by decide) (by kernel_rfl)
  intro mg mb g h₁ L' A s F N X T hh hd hu tk0 Q0 hQ0
  w_strict k_steps
  all_goals ((try dsimp only); exact hQ0 _ _ (back_ (by assumption) (by assumption) (by tb_start) rfl))
theorem spec_eqf2 (hp : Md p) (hx : FormIn news (.ref t1) p f) (hy : FormIn news (.ref t2) p g) : Spec w 288 [.ref t1, .ref t2] news 15 80 (fun _ v => ∃ b, v = .bool b ∧ (b = true ↔ eqI p f g)) := by
  obtain ⟨x1, y1, z1⟩ := f
  obtain ⟨x2, y2, z2⟩ := g
  obtain ⟨t, a, b, c, e, mt, P1, P2, P3⟩ := hx
  cases e
  obtain ⟨t, a', b', c', e, mt', P1', P2', P3'⟩ := hy
  cases e
  dsimp only at P1 P2 P3 P1' P2' P3'
  refine spec_def (by k_is) (by k_is) (fun _ => BindsTo.of_eq rfl) (locs rfl) ?_ rfl rfl rfl (by decide) (by kernel_rfl)
  intro mg mb g h₁ L' A s F N X T hh hd hu tk0 Q0 hQ0
  w_strict k_steps
  all_goals try dsimp only
  all_goals refine hQ0 _ _ (back_ (by assumption) (by assumption) (by tb_start) ⟨_, rfl, ?_⟩)
  all_goals (unfold eqI; simp only [beq_iff_eq])
  all_goals first | exact ⟨fun h => ⟨by assumption, h⟩, fun h => h.2⟩ | exact ⟨fun h => absurd h (by assumption), fun h => h.1⟩
end
section
variable {w : World} {mg mb : Str → Option Value} {led : Led} {g₀ : Heap} {L : Addr} {m : Str → Option Value} {A : Around} {s : Shared} {Q E : Value → Shared → Prop} {p : Int} {t : Addr} {f : Tri}
theorem call_inf2 (N : News g₀ L s.heap led) (F : Fr g₀ L s.heap m) (X : (hd.heap_1 w.params).In g₀) (T : TR mg mb g₀) (hh : A.handled = none) (hp : Md p) (hx : FormIn led (.ref t) p f)
    (hdp : A.depth + 15 < recursionLimit) (hun : A.units + 80 < cLine)
    (h : ∀ h' tk', Fr g₀ L h' m → News g₀ L h' led → Q (.bool (f.2.2 == 0)) { s with heap := h', toks := tk' }) :
    wpAny (MM w) A (call (.ref 253) [.ref t]) Q E s :=
  Spec.use0 N F X T hh (spec_inf2 hp hx) hdp hun fun v h' tk' F' N' e => by subst e; exact h h' tk' F' N'
end
local macro_rules | `(tactic| walk_at "call ref") => `(tactic| o_head (253, call_inf2 _ _ _ _ [] _ ()))
section
variable {w : World} {news : Led} {x t : Addr} {p b : Int} {f g : Tri}
theorem spec_on2 (hp : Md p) (hx : FormIn news (.ref t) p f) (hy : FQin news (.ref x) p b) : Spec w 260 [.ref t, .ref x] news 30 180 (fun _ v => ∃ c, v = .bool c ∧ (c = true ↔ onI p f b)) := by
  have hx' := hx
  obtain ⟨x, y, z⟩ := f
  obtain ⟨t, a, b, c, e, mt, P1, P2, P3⟩ := hx
  cases e
  dsimp only at P1 P2 P3
  refine spec_def (by k_is) (by k_is) (fun _ => BindsTo.of_eq rfl) (locs rfl) ?_ rfl rfl rfl (by decide) (by kernel_rfl)
  intro mg mb g h₁ L' A s F N X T hh hd hu tk0 Q0 hQ0
  w_strict k_steps
  all_goals try dsimp only
  all_goals refine hQ0 _ _ (back_ (by assumption) (by assumption) (by tb_start) ⟨_, rfl, ?_⟩)
  all_goals (unfold onI; simp only [beq_iff_eq])
  all_goals first | exact ⟨fun _ => .inl (by first | assumption | rfl), fun _ => by trivial⟩ | exact ⟨fun h => .inr h, fun h => h.resolve_left (by assumption)⟩
end

noncomputable def mulI (p : Int) : Nat → Tri → Int → Tri
  | 0, _, _ => (1, 1, 0)
  | k + 1, f, n => if n = 0 then (1, 1, 0) else if n = 1 then f else
      if Int.fmod n 2 = 0 then mulI p k (dblI p f) (Int.fdiv n 2) else addI p (mulI p k (dblI p f) (Int.fdiv n 2)) f
def MulSpec (w : World) (fa : Addr) (p : Int) (k : Nat) : Prop :=
  ∀ (news : Led) (t : Addr) (tok : Tok) (f : Tri) (n : Int), 0 ≤ n → n < 2 ^ k → FormIn news (.ref t) p f →
    Spec w fa [.ref t, .int n tok] news (35 + k) (180 + 4 * k) (fun led v => FormIn led v p (mulI p k f n))
theorem MulSpec.get {w : World} {fa : Addr} {p : Int} {k : Nat} (H : MulSpec w fa p k) {news : Led} {t : Addr} {tok : Tok} {f : Tri} {n : Int} (h0 : 0 ≤ n) (h1 : n < 2 ^ k) (hx : FormIn news (.ref t) p f) :
    Spec w fa [.ref t, .int n tok] news (35 + k) (180 + 4 * k) (fun led v => FormIn led v p (mulI p k f n)) := H news t tok f n h0 h1 hx
section
variable {p : Int} {k : Nat} {f : Tri} {n : Int}
theorem mulI_0 (h : n = 0) : mulI p (k + 1) f n = (1, 1, 0) := by show (if n = 0 then _ else _) = _; rw [if_pos h]
theorem mulI_1 (h : n = 1) : mulI p (k + 1) f n = f := by show (if n = 0 then _ else if n = 1 then _ else _) = _; rw [if_neg (by omega), if_pos h]
theorem mulI_e (h0 : n ≠ 0) (h1 : n ≠ 1) (h : Int.fmod n 2 = 0) : mulI p (k + 1) f n = mulI p k (dblI p f) (Int.fdiv n 2) := by
  show (if n = 0 then _ else if n = 1 then _ else if Int.fmod n 2 = 0 then _ else _) = _; rw [if_neg h0, if_neg h1, if_pos h]
theorem mulI_o (h0 : n ≠ 0) (h1 : n ≠ 1) (h : Int.fmod n 2 ≠ 0) : mulI p (k + 1) f n = addI p (mulI p k (dblI p f) (Int.fdiv n 2)) f := by
  show (if n = 0 then _ else if n = 1 then _ else if Int.fmod n 2 = 0 then _ else _) = _; rw [if_neg h0, if_neg h1, if_neg h]
end
theorem fdiv2 {n : Int} {k : Nat} (h0 : 0 ≤ n) (h1 : n < 2 ^ (k + 1)) : 0 ≤ Int.fdiv n 2 ∧ Int.fdiv n 2 < 2 ^ k := by
  rw [Int.fdiv_eq_ediv_of_nonneg _ (by decide)]
  rw [Int.pow_succ] at h1
  omega
local macro_rules | `(tactic| walk_at "call ref") => `(tactic| o_head (Spec.useForm _ _ _ _ [] (MulSpec.get _ _ _ ())))
theorem spec_mulN1 {w : World} {p : Int} (hp : Md p) : ∀ k, MulSpec w 56 p k := by
  intro k
  induction k with
  | zero =>
    intro news t tok f n h0 h1 hx
    have hn : n = 0 := by simp at h1; omega
    subst hn
    have hx' := hx
    obtain ⟨x, y, z⟩ := f
    obtain ⟨t, a, b, c, e, mt, P1, P2, P3⟩ := hx
    cases e
    dsimp only at P1 P2 P3
    refine spec_def (by k_is) (by k_is) (fun _ => BindsTo.of_eq rfl) (locs rfl) ?_ rfl rfl rfl (by decide) (by kernel_rfl)
    intro mg mb g h₁ L' A s F N X T hh hd hu tk0 Q0 hQ0
    w_strict k_steps
    all_goals try dsimp only
    all_goals exact hQ0 _ _ (back_ (by assumption) (by assumption) (by tb_start) ⟨_, _, _, _, rfl, .head _, by tb_rel, by tb_rel, by tb_rel⟩)
  | succ k IH =>
    intro news t tok f n h0 h1 hx
    have hx' := hx
    obtain ⟨f0, f1⟩ := fdiv2 h0 h1
    obtain ⟨x, y, z⟩ := f
    obtain ⟨t, a, b, c, e, mt, P1, P2, P3⟩ := hx
    cases e
    dsimp only at P1 P2 P3
    refine spec_def (by k_is) (by k_is) (fun _ => BindsTo.of_eq rfl) (locs rfl) ?_ rfl rfl rfl (by decide) (by kernel_rfl)
    intro mg mb g h₁ L' A s F N X T hh hd hu tk0 Q0 hQ0
    w_strict k_steps
    all_goals try dsimp only
    all_goals refine hQ0 _ _ (back_ (by assumption) (by assumption) (by tb_start) ?_)
    all_goals first
      | (rw [mulI_0 (by first | assumption | rfl)]; exact ⟨_, _, _, _, rfl, .head _, by tb_rel, by tb_rel, by tb_rel⟩)
      | (rw [mulI_1 (by first | assumption | rfl)]; tb_rel)
      | (rw [mulI_e (by assumption) (by assumption) (by assumption)]; tb_rel)
      | (rw [mulI_o (by assumption) (by assumption) (by assumption)]; tb_rel)
theorem spec_mulN2 {w : World} {p : Int} (hp : Md p) : ∀ k, MulSpec w 281 p k := by
  intro k
  induction k with
  | zero =>
    intro news t tok f n h0 h1 hx
    have hn : n = 0 := by simp at h1; omega
    subst hn
    have hx' := hx
    obtain ⟨x, y, z⟩ := f
    obtain ⟨t, a, b, c, e, mt, P1, P2, P3⟩ := hx
    cases e
    dsimp only at P1 P2 P3
    refine spec_def (by k_is) (by k_is) (fun _ => BindsTo.of_eq rfl) (locs rfl) ?_ rfl rfl rfl (by decide) (by kernel_rfl)
    intro mg mb g h₁ L' A s F N X T hh hd hu tk0 Q0 hQ0
    w_strict k_steps
    all_goals try dsimp only
    all_goals exact hQ0 _ _ (back_ (by assumption) (by assumption) (by tb_start) ⟨_, _, _, _, rfl, .head _, by tb_rel, by tb_rel, by tb_rel⟩)
  | succ k IH =>
    intro news t tok f n h0 h1 hx
    have hx' := hx
    obtain ⟨f0, f1⟩ := fdiv2 h0 h1
    obtain ⟨x, y, z⟩ := f
    obtain ⟨t, a, b, c, e, mt, P1, P2, P3⟩ := hx
    cases e
    dsimp only at P1 P2 P3
    refine spec_def (by k_is) (by k_is) (fun _ => BindsTo.of_eq rfl) (locs rfl) ?_ rfl rfl rfl (by decide) (by kernel_rfl)
    intro mg mb g h₁ L' A s F N X T hh hd hu tk0 Q0 hQ0
    w_strict k_steps
    all_goals try dsimp only
    all_goals refine hQ0 _ _ (back_ (by assumption) (by assumption) (by tb_start) ?_)
    all_goals first
      | (rw [mulI_0 (by first | assumption | rfl)]; exact ⟨_, _, _, _, rfl, .head _, by tb_rel, by tb_rel, by tb_rel⟩)
      | (rw [mulI_1 (by first | assumption | rfl)]; tb_rel)
      | (rw [mulI_e (by assumption) (by assumption) (by assumption)]; tb_rel)
      | (rw [mulI_o (by assumption) (by assumption) (by assumption)]; tb_rel)

theorem boot_pow : bootBuiltins "pow" = some (.builtin "pow") := by decide +kernel
theorem kind_pow : builtinKind "pow" = none := by decide +kernel
theorem plain_pow : plainId "pow" = true := by decide +kernel
theorem entry_pow : entryFor table "pow" = some Builtin.«pow» := entryFor_of_fast (by kernel_rfl)
theorem args_pow (a b c : Value) : argsOk "pow" ⟨[a, b, c], []⟩ := by unfold argsOk; kernel_rfl
theorem args_ipow (a b c : Value) : argsOk "int.__pow__" ⟨[a, b, c], []⟩ := by unfold argsOk; kernel_rfl
/-- pow(b, e, m), the numbers as the model reckons them -/
def powI (b e m : Int) : Int := (Builtin.powMod (b % ((m.natAbs : Nat) : Int)).toNat e.natAbs m.natAbs : Nat)
theorem gives_pow3 (b e m : Int) (t u v : Tok) (hc0 : ¬(m == 0) = true) (hc1 : ¬(m.natAbs == 1) = true) (hc2 : ¬ e < 0) (hc3 : ¬ m < 0) :
    Gives (Builtin.«int.__pow__» ⟨[.int b t, .int e u, .int m v], []⟩) (.int (powI b e m)) :=
  .of_wp fun M A E s Q h => by
    obtain ⟨hp, g, d, tk, os⟩ := s
    wp_walk
    refine ⟨_, rfl, ?_⟩
    rw [if_neg (by rw [decide_eq_false hc3]; simp)]
    exact h
section
variable {prog : Program} {w : World} {A : Around} {E : Value → Shared → Prop} {s : Shared} {Q : Value → Shared → Prop} {b e m : Int} {t u v : Tok}
theorem call_pow3 (hm : Md m) (he : 0 ≤ e) (h : Q (.int (powI b e m) s.toks) { s with toks := s.toks + 1 }) :
    wpAny (model prog w) A (call (.builtin "pow") [.int b t, .int e u, .int m v]) Q E s := by
  have hc0 : ¬(m == 0) = true := by have := hm.ne; simpa using this
  have hc1 : ¬(m.natAbs == 1) = true := by have := hm.1; simp; omega
  refine Calls.call_function_entry kind_pow plain_pow entry_pow (args_pow _ _ _) ?_
  have lk : typeLookup (.type "int") "__pow__" = pure (some (.builtin "int.__pow__")) := PySem.F.slot_int_pow.lookup
  unfold Builtin.«pow»
  wp_walk
  rw [PySem.F.slot_int_pow.bind]
  refine wpAny_pure ?_
  refine wpAny_bind ?_
  show wpAny (model prog w) A.in1 (call (.builtin "int.__pow__") [.int b t, .int e u, .int m v]) _ _ _
  refine call_meets PySem.F.slot_int_pow (typeIs_int s b t) PySem.F.entry_int_pow (args_ipow _ _ _) (gives_pow3 b e m t u v hc0 hc1 (by omega) (by have := hm.1; omega)).meets ?_
  refine wpAny_pure ?_
  dsimp only
  rw [if_pos (by rfl)]
  exact wpAny_pure ⟨_, rfl, h⟩
end

theorem Sm.lit {a : Int} (h : a.natAbs < 2 ^ 64) : Sm 64 a := h
theorem Sm.add' {B C : Nat} {a b : Int} (ha : Sm B a) (hb : Sm C b) : Sm (B + C + 1) (a + b) := (ha.le (Nat.le_add_right B C)).add (hb.le (Nat.le_add_left C B))
theorem Sm.sub' {B C : Nat} {a b : Int} (ha : Sm B a) (hb : Sm C b) : Sm (B + C + 1) (a - b) := (ha.le (Nat.le_add_right B C)).sub (hb.le (Nat.le_add_left C B))
theorem Sm.fmod {p a : Int} (hp : Md p) : Sm 512 (Int.fmod a p) := by
  rw [fmod_pos hp]; exact hp.sm_of (Int.emod_nonneg _ hp.ne) (Int.emod_lt_of_pos _ hp.pos)
theorem powMod_lt {b e m : Nat} (hm : 0 < m) : Builtin.powMod b e m < m := by
  unfold Builtin.powMod
  generalize (List.range (Builtin.Int.intBits ((e : Nat) : Int))).reverse = l
  have : ∀ (l : List Nat) (a : Nat), a < m → l.foldl (fun p i => if e.testBit i then p * p % m * b % m else p * p % m) a < m := by
    intro l
    induction l with
    | nil => intro a h; exact h
    | cons i l ih =>
      intro a h
      rw [List.foldl_cons]
      refine ih _ ?_
      split <;> exact Nat.mod_lt _ hm
  exact this l _ (Nat.mod_lt _ hm)
theorem powI_range {p b e : Int} (hp : Md p) : 0 ≤ powI b e p ∧ powI b e p < p := by
  have h := hp.1
  have hm : 0 < p.natAbs := by omega
  have := powMod_lt (b := (b % ((p.natAbs : Nat) : Int)).toNat) (e := e.natAbs) hm
  unfold powI
  omega
theorem Sm.powI {p b e : Int} (hp : Md p) : Sm 512 (powI b e p) := hp.sm_of (powI_range hp).1 (powI_range hp).2
local macro_rules | `(tactic| ktd_rel) => `(tactic| first
  | assumption
  | exact FQin.sm (by assumption) (by assumption)
  | exact Sm.fmod (by assumption)
  | exact Sm.powI (by assumption)
  | exact Sm.lit (by decide)
  | (o_head Sm.mul 0 1 / [by ktd_rel, by ktd_rel])
  | (o_head Sm.add' 0 1 / [by ktd_rel, by ktd_rel])
  | (o_head Sm.sub' 0 1 / [by ktd_rel, by ktd_rel])
  | fail "ktd_rel")
local macro_rules | `(tactic| mul_fits) => `(tactic| exact Sm.mulOk (by ktd_rel) (by ktd_rel) (by decide))
local macro_rules | `(tactic| walk_at "call builtin:pow") => `(tactic| (k_here; k_dflt (o_head [call_pow3 _ _])))
abbrev Pt : Type := Option (Int × Int)
def PtOk (p : Int) : Pt → Prop
  | none => True
  | some (x, y) => (0 ≤ x ∧ x < p) ∧ (0 ≤ y ∧ y < p)
def PtIn (led : Led) (v : Value) : Pt → Prop
  | none => v = .none
  | some (x, y) => ∃ t tx ty, v = .ref t ∧ (t, tupObj [.int x tx, .int y ty]) ∈ led
theorem PtIn.mono {a b : Led} {v : Value} {P : Pt} (h : PtIn a v P) (k : ∀ q ∈ a, q ∈ b) : PtIn b v P := by
  cases P with
  | none => exact h
  | some P => obtain ⟨t, tx, ty, e, m⟩ := h; exact ⟨t, tx, ty, e, k _ m⟩
local macro_rules | `(tactic| tb_rel) => `(tactic| o_head PtIn _ _ _ - PtIn.mono)
def ladd (p : Int) : Pt → Pt → Pt
  | none, Q => Q
  | some P, none => some P
  | some (x1, y1), some (x2, y2) =>
    if x1 = x2 then
      if Int.fmod (y1 + y2) p = 0 then none else
        let s := Int.fmod (3 * x1 * x1 * powI (2 * y1) (p - 2) p) p
        let x := Int.fmod (s * s - x1 - x2) p
        some (x, Int.fmod (s * (x1 - x) - y1) p)
    else
      let s := Int.fmod ((y2 - y1) * powI (Int.fmod (x2 - x1) p) (p - 2) p) p
      let x := Int.fmod (s * s - x1 - x2) p
      some (x, Int.fmod (s * (x1 - x) - y1) p)
section
variable {p x1 y1 x2 y2 : Int}
theorem ladd_n (h : x1 = x2) (k : Int.fmod (y1 + y2) p = 0) : ladd p (some (x1, y1)) (some (x2, y2)) = none := by
  show (if x1 = x2 then _ else _) = _; rw [if_pos h, if_pos k]
theorem ladd_d (h : x1 = x2) (k : Int.fmod (y1 + y2) p ≠ 0) : ladd p (some (x1, y1)) (some (x2, y2)) =
    some (Int.fmod (Int.fmod (3 * x1 * x1 * powI (2 * y1) (p - 2) p) p * Int.fmod (3 * x1 * x1 * powI (2 * y1) (p - 2) p) p - x1 - x2) p,
      Int.fmod (Int.fmod (3 * x1 * x1 * powI (2 * y1) (p - 2) p) p * (x1 - Int.fmod (Int.fmod (3 * x1 * x1 * powI (2 * y1) (p - 2) p) p * Int.fmod (3 * x1 * x1 * powI (2 * y1) (p - 2) p) p - x1 - x2) p) - y1) p) := by
  show (if x1 = x2 then _ else _) = _; rw [if_pos h, if_neg k]
theorem ladd_s (h : x1 ≠ x2) : ladd p (some (x1, y1)) (some (x2, y2)) =
    some (Int.fmod (Int.fmod ((y2 - y1) * powI (Int.fmod (x2 - x1) p) (p - 2) p) p * Int.fmod ((y2 - y1) * powI (Int.fmod (x2 - x1) p) (p - 2) p) p - x1 - x2) p,
      Int.fmod (Int.fmod ((y2 - y1) * powI (Int.fmod (x2 - x1) p) (p - 2) p) p * (x1 - Int.fmod (Int.fmod ((y2 - y1) * powI (Int.fmod (x2 - x1) p) (p - 2) p) p * Int.fmod ((y2 - y1) * powI (Int.fmod (x2 - x1) p) (p - 2) p) p - x1 - x2) p) - y1) p) := by
  show (if x1 = x2 then _ else _) = _; rw [if_neg h]
end
section
variable {w : World} {news : Led} {p : Int} {v1 v2 : Value} {u : Tok}
theorem spec_ladd {P Q : Pt} (hp : Md p) (hP : PtIn news v1 P) (hQ : PtIn news v2 Q) (oP : PtOk p P) (oQ : PtOk p Q) :
    Spec w 316 [v1, v2, .int p u] news 10 60 (fun led v => PtIn led v (ladd p P Q)) := by
  have hp0 := hp.ne
  have he2 : 0 ≤ p - 2 := by have := hp.1; omega
  rcases P with _ | ⟨x1, y1⟩
  · cases hP
    have : ladd p none Q = Q := by cases Q <;> rfl
    rw [this]
    rcases Q with _ | ⟨x2, y2⟩
    · cases hQ
      refine spec_def (by k_is) (by k_is) (fun _ => BindsTo.of_eq rfl) (locs rfl) ?_ rfl rfl rfl (by decide) (by kernel_rfl)
      intro mg mb g h₁ L' A s F N X T hh hd hu tk0 Q0 hQ0
      w_strict k_steps
      all_goals ((try dsimp only); exact hQ0 _ _ (back_ (by assumption) (by assumption) (by tb_start) rfl))
    · have hQ' := hQ
      obtain ⟨t, tx, ty, e, m⟩ := hQ
      cases e
      refine spec_def (by k_is) (by k_is) (fun _ => BindsTo.of_eq rfl) (locs rfl) ?_ rfl rfl rfl (by decide) (by kernel_rfl)
      intro mg mb g h₁ L' A s F N X T hh hd hu tk0 Q0 hQ0
      w_strict k_steps
      all_goals ((try dsimp only); exact hQ0 _ _ (back_ (by assumption) (by assumption) (by tb_start) (by tb_rel)))
  · have hP' := hP
    obtain ⟨t, tx, ty, e, m⟩ := hP
    cases e
    rcases Q with _ | ⟨x2, y2⟩
    · cases hQ
      refine spec_def (by k_is) (by k_is) (fun _ => BindsTo.of_eq rfl) (locs rfl) ?_ rfl rfl rfl (by decide) (by kernel_rfl)
      intro mg mb g h₁ L' A s F N X T hh hd hu tk0 Q0 hQ0
      w_strict k_steps
      all_goals ((try dsimp only); exact hQ0 _ _ (back_ (by assumption) (by assumption) (by tb_start) (by tb_rel)))
    · have hQ' := hQ
      obtain ⟨t', tx', ty', e, m'⟩ := hQ
      cases e
      have s1 : Sm 512 x1 := hp.sm_of oP.1.1 oP.1.2
      have s2 : Sm 512 y1 := hp.sm_of oP.2.1 oP.2.2
      have s3 : Sm 512 x2 := hp.sm_of oQ.1.1 oQ.1.2
      have s4 : Sm 512 y2 := hp.sm_of oQ.2.1 oQ.2.2
      refine spec_def (by k_is) (by k_is) (fun _ => BindsTo.of_eq rfl) (locs rfl) ?_ rfl rfl rfl (by decide) (by kernel_rfl)
      intro mg mb g h₁ L' A s F N X T hh hd hu tk0 Q0 hQ0
      w_strict k_steps
      all_goals try dsimp only
      all_goals refine hQ0 _ _ (back_ (by assumption) (by assumption) (by tb_start) ?_)
      all_goals first
        | (rw [ladd_n (by first | assumption | rfl) (by assumption)]; rfl)
        | (rw [ladd_d (by first | assumption | rfl) (by assumption)]; exact ⟨_, _, _, rfl, .head _⟩)
        | (rw [ladd_s (by assumption)]; exact ⟨_, _, _, rfl, .head _⟩)
end

theorem fmod_range {p a : Int} (hp : Md p) : 0 ≤ Int.fmod a p ∧ Int.fmod a p < p := by
  rw [fmod_pos hp]; exact ⟨Int.emod_nonneg _ hp.ne, Int.emod_lt_of_pos _ hp.pos⟩
theorem ladd_ok {p : Int} (hp : Md p) {P Q : Pt} (oP : PtOk p P) (oQ : PtOk p Q) : PtOk p (ladd p P Q) := by
  rcases P with _ | ⟨x1, y1⟩
  · cases Q <;> exact oQ
  rcases Q with _ | ⟨x2, y2⟩
  · exact oP
  by_cases h : x1 = x2
  · by_cases k : Int.fmod (y1 + y2) p = 0
    · rw [ladd_n h k]; trivial
    · rw [ladd_d h k]; exact ⟨fmod_range hp, fmod_range hp⟩
  · rw [ladd_s h]; exact ⟨fmod_range hp, fmod_range hp⟩
theorem Spec.usePt {w : World} {f : Addr} {vs : List Value} {news : Led} {dn un : Nat} {r : Pt} {mg mb : Str → Option Value}
    {g₀ : Heap} {L : Addr} {m : Str → Option Value} {A : Around} {s : Shared} {Q E : Value → Shared → Prop}
    (N : News g₀ L s.heap news) (F : Fr g₀ L s.heap m) (X : (hd.heap_1 w.params).In g₀) (T : TR mg mb g₀) (hh : A.handled = none)
    (S : Spec w f vs news dn un (fun led v => PtIn led v r)) (hdp : A.depth + dn < recursionLimit) (hun : A.units + un < cLine)
    (h : ∀ v h' tk' led, Fr g₀ L h' m → News g₀ L h' led → (∀ q ∈ news, q ∈ led) → PtIn led v r → Q v { s with heap := h', toks := tk' }) :
    wpAny (MM w) A (call (.ref f) vs) Q E s := S.use F N X T hh hdp hun h
local macro_rules | `(tactic| walk_at "call ref") => `(tactic| o_head (316, Spec.usePt _ _ _ _ [] (spec_ladd _ () () (by first | assumption | exact ladd_ok _ _ _) (by first | assumption | exact ladd_ok _ _ _))))

noncomputable def ltimesF (p : Int) : Nat → Pt → Pt → Int → Pt
  | 0, F, _, _ => F
  | k + 1, F, P, n => if 0 < n then ltimesF p k (if Int.fmod n 2 = 1 then ladd p F P else F) (ladd p P P) (Int.fdiv n 2) else F
theorem ltimesF_done {p : Int} {F P : Pt} {n : Int} (h : ¬ 0 < n) : ∀ k, ltimesF p k F P n = F
  | 0 => rfl
  | k + 1 => by show (if 0 < n then _ else F) = F; rw [if_neg h]
theorem ltimesF_odd {p : Int} {F P : Pt} {n : Int} {k : Nat} (h : 0 < n) (o : Int.fmod n 2 = 1) : ltimesF p (k + 1) F P n = ltimesF p k (ladd p F P) (ladd p P P) (Int.fdiv n 2) := by
  show (if 0 < n then ltimesF p k (if Int.fmod n 2 = 1 then ladd p F P else F) (ladd p P P) (Int.fdiv n 2) else F) = _; rw [if_pos h, if_pos o]
theorem ltimesF_even {p : Int} {F P : Pt} {n : Int} {k : Nat} (h : 0 < n) (o : Int.fmod n 2 ≠ 1) : ltimesF p (k + 1) F P n = ltimesF p k F (ladd p P P) (Int.fdiv n 2) := by
  show (if 0 < n then ltimesF p k (if Int.fmod n 2 = 1 then ladd p F P else F) (ladd p P P) (Int.fdiv n 2) else F) = _; rw [if_pos h, if_neg o]
def TmM (news : Led) (p : Int) (R : Pt) (n : Nat) (m : Str → Option Value) (led : Led) : Prop :=
  (∀ q ∈ news, q ∈ led) ∧ ∃ F P vf vp num k t1 t2, m (Str.ofString "found") = some vf ∧ m (Str.ofString "point") = some vp ∧ m (Str.ofString "number") = some (.int num t1) ∧
    m (Str.ofString "prime") = some (.int p t2) ∧ PtIn led vf F ∧ PtIn led vp P ∧ PtOk p F ∧ PtOk p P ∧ 0 ≤ num ∧ num < 2 ^ k ∧ ltimesF p k F P num = R ∧ n = num.toNat
theorem fdiv2_lt {n : Int} (h : 0 < n) : (Int.fdiv n 2).toNat < n.toNat := by
  rw [Int.fdiv_eq_ediv_of_nonneg _ (by decide)]; omega
theorem fdiv2' {n : Int} {k : Nat} (h : 0 < n) (h1 : n < 2 ^ k) : ∃ j, k = j + 1 ∧ 0 ≤ Int.fdiv n 2 ∧ Int.fdiv n 2 < 2 ^ j := by
  cases k with
  | zero => simp at h1; omega
  | succ j => exact ⟨j, rfl, fdiv2 (Int.le_of_lt h) h1⟩
section
variable {w : World} {news : Led} {p n : Int} {v : Value} {t u : Tok}
theorem spec_ltimes {P : Pt} {k : Nat} (hp : Md p) (hP : PtIn news v P) (oP : PtOk p P) (h0 : 0 ≤ n) (h1 : n < 2 ^ k) :
    Spec w 323 [v, .int n t, .int p u] news 20 100 (fun led v => PtIn led v (ltimesF p k none P n)) := by
  refine spec_def (by k_is) (by k_is) (fun _ => BindsTo.of_eq rfl) (locs rfl) ?_ rfl rfl rfl (by decide) (by kernel_rfl)
  intro mg mb g h₁ L' A s F N X T hh hd hu tk0 Q0 hQ0
  w_strict (repeat' ((fail_if_success (with_reducible show wpAny _ _ (exec (Stmt.While _ _ _ _) _) _ _ _)); (first | (k_unfold; (try dsimp only)) | (k_end; wrow_close) | walk1 | (dsimp only; walk1) | (leave1; try dsimp only))))
  refine While_inv2 (TmM news p (ltimesF p k none P n)) (n₀ := n.toNat) (by assumption) (by assumption) ⟨by tb_start, none, P, .none, v, n, k, _, _, rfl, rfl, rfl, rfl, rfl, by tb_rel, trivial, oP, h0, h1, rfl, rfl⟩ ?_
  intro n₁ m₁ news₁ h₁ tk₁ F₁ N₁ J₁
  obtain ⟨hsub, Fv, Pv, vf, vp, num, k₁, t1, t2, b1, b2, b3, b4, pF, pP, oF, oP₁, g0, g1, hR, hn⟩ := J₁
  w_strict k_steps
  · have hl9 : 0 < num := by assumption
    have ho9 : Int.fmod num 2 = 1 := by assumption
    obtain ⟨j, rfl, g2, g3⟩ := fdiv2' hl9 g1
    refine whileStep2_next (by assumption) (by assumption) (hn ▸ fdiv2_lt hl9) ?_
    exact ⟨by tb_start, ladd p Fv Pv, ladd p Pv Pv, _, _, _, j, _, _, rfl, rfl, rfl, b4, by tb_rel, by tb_rel, ladd_ok hp oF oP₁, ladd_ok hp oP₁ oP₁, g2, g3, by rw [← ltimesF_odd hl9 ho9]; exact hR, rfl⟩
  · have hl9 : 0 < num := by assumption
    have ho9 : Int.fmod num 2 ≠ 1 := by assumption
    obtain ⟨j, rfl, g2, g3⟩ := fdiv2' hl9 g1
    refine whileStep2_next (by assumption) (by assumption) (hn ▸ fdiv2_lt hl9) ?_
    exact ⟨by tb_start, Fv, ladd p Pv Pv, _, _, _, j, _, _, b1, rfl, rfl, b4, by tb_rel, by tb_rel, oF, ladd_ok hp oP₁ oP₁, g2, g3, by rw [← ltimesF_even hl9 ho9]; exact hR, rfl⟩
  · have hl9 : ¬ 0 < num := by first | assumption | omega
    rw [ltimesF_done hl9] at hR
    dsimp only
    exact hQ0 _ _ (back_ (by assumption) (by assumption) (by tb_start) (by rw [← hR]; tb_rel))
end

def OnC (p c : Int) : Pt → Prop
  | none => True
  | some (x, y) => (y * y) % p = (x * x * x + c) % p
theorem neg_sq {p y : Int} (hp : Md p) : (Int.fmod (p - y) p * Int.fmod (p - y) p) % p = (y * y) % p := by
  rw [fmod_pos hp, ← Int.mul_emod]
  have : (p - y) * (p - y) = y * y + p * (p - 2 * y) := by
    simp only [Int.sub_mul, Int.mul_sub, Int.mul_comm y p]
    have : p * (2 * y) = 2 * (p * y) := by rw [Int.mul_left_comm]
    omega
  rw [this, Int.add_mul_emod_self_left]
theorem fdiv4 {p : Int} (hp : Md p) : 0 ≤ Int.fdiv (p + 1) 4 := by
  rw [Int.fdiv_eq_ediv_of_nonneg _ (by decide)]
  have := hp.1
  omega
theorem invNext {h₀ h' : Heap} {L : Addr} {J : (Str → Option Value) → Led → Prop} {own nx : Led} {adr : List Addr} {s₁ : Shared} {Q : Flow → Shared → Prop} {m' : Str → Option Value} {tk : Nat}
    (F' : Fr h₀ L h' m') (N' : News h₀ L h' (nx ++ own)) (ha : nx.map (·.1) = adr) (hJ : J m' nx) : InvPostN h₀ L J own adr s₁ Q .next { s₁ with heap := h', toks := tk } :=
  ⟨h', tk, m', _, nx, rfl, F', N', fun _ h => List.mem_append_left _ h, fun _ h => List.mem_append_right _ h, ha, hJ⟩
theorem invEnd {h₀ h' : Heap} {L : Addr} {J : (Str → Option Value) → Led → Prop} {own nx : Led} {adr : List Addr} {s₁ : Shared} {m' : Str → Option Value} {tk : Nat}
    (F' : Fr h₀ L h' m') (N' : News h₀ L h' (nx ++ own)) (ha : nx.map (·.1) = adr) (hJ : J m' nx) : InvEndN h₀ L J own adr s₁ { s₁ with heap := h', toks := tk } :=
  ⟨h', tk, m', _, nx, rfl, F', N', fun _ h => List.mem_append_left _ h, fun _ h => List.mem_append_right _ h, ha, hJ⟩
def LpR (news : Led) (p c cell : Int) (_ : Unit) (m : Str → Option Value) (nx : Led) : Prop :=
  nx = news ∧ ∃ x t1 t2 t3 t4, m (Str.ofString "x") = some (.int x t1) ∧ m (Str.ofString "prime") = some (.int p t2) ∧ m (Str.ofString "shift") = some (.int c t3) ∧
    m (Str.ofString "cell") = some (.int cell t4) ∧ 0 ≤ x ∧ x < p
section
variable {w : World} {news : Led} {p c cell : Int} {t u v : Tok}
theorem spec_lpoint (hp : Md p) (hc0 : 0 ≤ c) (hc1 : c < p) (hl0 : 0 ≤ cell) : Spec w 330 [.int cell t, .int c u, .int p v] news 10 60 (fun led v => ∃ P, PtIn led v P ∧ PtOk p P ∧ OnC p c P) := by
  refine spec_def (by k_is) (by k_is) (fun _ => BindsTo.of_eq rfl) (locs rfl) ?_ rfl rfl rfl (by decide) (by kernel_rfl)
  intro mg mb g h₁ L' A s F N X T hh hd hu tk0 Q0 hQ0
  have hp0 := hp.ne
  have he4 := fdiv4 hp
  have sc : Sm 512 c := hp.sm_of hc0 hc1
  w_strict (repeat' ((fail_if_success (with_reducible show wpAny _ _ (pyIter _) _ _ _)); (first | (k_unfold; (try dsimp only)) | (k_end; wrow_close) | walk1 | (dsimp only; walk1) | (leave1; try dsimp only))))
  · dsimp only
    exact hQ0 _ _ (back_ (by assumption) (by assumption) (by tb_start) ⟨none, rfl, trivial, trivial⟩)
  refine iter_rangeS (σ := Unit) (LpR news p c cell) (fun _ _ => ()) () (n := 60) (by assumption) (by assumption) (by decide) (by decide) (by assumption) (by assumption)
    ⟨rfl, _, _, _, _, _, rfl, rfl, rfl, rfl, fmod_range hp⟩ ?_ ?_
  · rintro k t₁ _ m₁ nx h tk own hk ho ⟨rfl, x, t1, t2, t3, t4, b1, b2, b3, b4, x0, x1⟩ F₁ N₁
    have sx : Sm 512 x := hp.sm_of x0 x1
    have onA : ∀ y, Int.fmod (y * y) p = Int.fmod (x * x * x + c) p → OnC p c (some (x, y)) := fun y h => by rw [fmod_pos hp, fmod_pos hp] at h; exact h
    have onB : ∀ y, Int.fmod (y * y) p = Int.fmod (x * x * x + c) p → OnC p c (some (x, Int.fmod (p - y) p)) := fun y h => (neg_sq hp).trans (onA y h)
    w_strict k_steps
    all_goals first
      | exact hQ0 _ _ (back_ (by assumption) (by assumption) (by tb_start) ⟨some (x, _), ⟨_, _, _, rfl, .head _⟩, ⟨⟨x0, x1⟩, fmod_range hp⟩, onB _ (by assumption)⟩)
      | exact hQ0 _ _ (back_ (by assumption) (by assumption) (by tb_start) ⟨some (x, _), ⟨_, _, _, rfl, .head _⟩, ⟨⟨x0, x1⟩, powI_range hp⟩, onA _ (by assumption)⟩)
      | (refine invEnd (by assumption) (by assumption) rfl ?_; exact ⟨rfl, _, _, t2, t3, t4, rfl, b2, b3, b4, fmod_range hp⟩)
  · rintro m₁ nx h tk ⟨rfl, x, t1, t2, t3, t4, b1, b2, b3, b4, x0, x1⟩ F₁ N₁
    w_strict k_steps
    all_goals ((try dsimp only); exact hQ0 _ _ (back_ (by assumption) (by assumption) (by tb_start) ⟨none, rfl, trivial, trivial⟩))
end

section
variable {prog : Program} {w : World} {A : Around} {E : Value → Shared → Prop} {s : Shared} {h₀ : Heap} {L : Addr} {m : Str → Option Value} {env : Env}
/-- a comprehension's source: a tuple of the ledger -/
def SrcT (prog : Program) (w : World) (A : Around) (h₀ : Heap) (L : Addr) (m : Str → Option Value) (env : Env) (elt : Expr) (x : Str) (scope : Scope) (cl : List (Str × Addr)) (Fin : Shared → List Value → Led → Prop) (xv : Value) (s₁ : Shared) : Prop :=
  ∃ ax o its n news, xv = .ref ax ∧ A.handled = none ∧ Fr h₀ L s₁.heap m ∧ News h₀ L s₁.heap news ∧ (ax, o) ∈ news ∧ o.cls = .type "tuple" ∧ o.data = .seq its n ∧ its.size ≤ sizeLine ∧
    ∀ s₂ : Shared, (∃ h, s₂ = { s₁ with heap := h }) → LCg.CompRest prog w A h₀ L m env elt x scope cl s₂ (fun nw => (ax, o) ∈ nw) (fun i v => its[i]? = some v) (Fin s₂) its.size 0 [] news
theorem SrcT.mk' {elt : Expr} {x : Str} {scope : Scope} {cl : List (Str × Addr)} {Fin : Shared → List Value → Led → Prop} {ax : Addr} {its : List Value} {k : Nat} {news : Led} {s₁ : Shared}
    (hh : A.handled = none) (F : Fr h₀ L s₁.heap m) (N : News h₀ L s₁.heap news) (hm : (ax, ({ cls := .type "tuple", data := .seq its.toArray k } : Obj)) ∈ news) (hsz : its.toArray.size ≤ sizeLine)
    (h : ∀ g, LCg.CompRest prog w A h₀ L m env elt x scope cl { s₁ with heap := g } (fun nw => (ax, ({ cls := .type "tuple", data := .seq its.toArray k } : Obj)) ∈ nw) (fun i v => its.toArray[i]? = some v) (Fin { s₁ with heap := g }) its.toArray.size 0 [] news) :
    SrcT prog w A h₀ L m env elt x scope cl Fin (.ref ax) s₁ := ⟨ax, _, _, _, news, rfl, hh, F, N, hm, rfl, rfl, hsz, fun _ ⟨g, e⟩ => e ▸ h g⟩
theorem ListComp_T {elt iter : Expr} {x : Str} {px : Pos} {scope : Scope} {cl : List (Str × Addr)} {pos : Pos} {Q : Value → Shared → Prop} (F₀ : Fr h₀ L s.heap m)
    (hclos : closureFor scope env = pure cl) (hcell : ∀ y ∈ scope.names, y.2 ≠ .cell) (hkind : scope.kind = .function)
    (hnames : ∀ y ∈ scope.names, y.2 = .local → scope.names.lookup y.1 = some .local) (hx : scope.names.lookup x = some .local)
    (h : wpAny (model prog w) A (eval iter env) (SrcT prog w A h₀ L m env elt x scope cl (fun s₂ => LCg.FinE h₀ L m s₂ Q)) E s)
    (hs : ∀ x, foldedSetIterable iter env x = pure x := by intro _; rfl) :
    wpAny (model prog w) A (eval (.ListComp elt [⟨.Name x px, iter, [], 0⟩] scope pos) env) Q E s := by
  rw [eval_ListComp]
  refine wpAny_comprehension_free (use := none) rfl hs hclos hkind hnames (wpAny_mono h (fun xv s₁ h₁ => ?_) fun _ _ e => e)
  obtain ⟨ax, o, its, n, news, rfl, hh, F, N, hm, hoc, hod, hsz, R⟩ := h₁
  have hl : s₁.heap.IsTuple ax its := ⟨o, (N _ hm).1, hoc, n, hod⟩
  have hlt : ax < s₁.heap.objs.size := by obtain ⟨_, e, _⟩ := hl; exact Heap.lt_size e
  refine wpAny_pyIter_tuple hl ?_
  have up : ∀ b o', s₁.heap.get? b = some o' → (s₁.heap.push { cls := .type "tuple_iterator", data := .fields #[.ref ax, .int 0 0] }).get? b = some o' := fun b o' e => Heap.get?_push_of_some _ e
  refine LCg.block_U (S := fun nw => (ax, o) ∈ nw) (Walks.tuple hh s₁.heap.objs.size ax (Nat.ne_of_lt hlt) its) hsz (fun i h st => by obtain ⟨o, e, _⟩ := st.1; exact ⟨o, e⟩)
    (fun i h h' oI nw st e e' k N' S' => ⟨by obtain ⟨o', q, r⟩ := st.1; rw [e] at q; cases q; exact ⟨oI, e', r⟩, ⟨o, (N' _ S').1, hoc, n, hod⟩⟩) hcell hkind hx ⟨⟨_, Heap.get?_push_size _ rfl, rfl, rfl⟩, ⟨o, up _ _ (N _ hm).1, hoc, n, hod⟩⟩ (fun b hb => ?_)
    (F.keeps up) (N.grown up) (Nat.ne_of_lt F.ns.lt) (next_is_new F) (fun p hp => Nat.ne_of_lt (Heap.lt_size (N p hp).1)) hm (R _ ⟨_, rfl⟩) ?_
  · show b < (s₁.heap.push _).objs.size
    rw [Heap.size_push]
    rcases List.mem_cons.mp hb with rfl | hb
    · exact Nat.lt_succ_self _
    · rw [List.mem_singleton.mp hb]; exact Nat.lt_succ_of_lt hlt
  · intro D C h tk m' ys news' F' N' o1 hn hC₀ hD₀ hCL hDL hCD offC fin
    refine ⟨m', hn, fun h'' hs'' => fin D h'' tk (F'.change hs'' hCL hC₀) (fun p hp => ?_) o1⟩
    refine ⟨hs''.extBut _ _ ?_ (N' p hp).1, (N' p hp).2⟩
    rcases List.mem_cons.mp hp with rfl | hp
    · exact Ne.symm hCD
    · exact offC p hp
end
local macro_rules | `(tactic| walk_at "eval ListComp") => `(tactic| (k_here; (first
  | (with_reducible show wpAny _ _ (eval (Expr.ListComp _ [⟨_, Expr.Name (Str.ofString "form") _, _, _⟩] _ _) _) _ _ _)
  | (with_reducible show wpAny _ _ (eval (Expr.ListComp _ [⟨_, Expr.Name (Str.ofString "quotients") _, _, _⟩] _ _) _) _ _ _)); k_dflt (refine ListComp_T (F₀ := by k_asm) (by with_unfolding_all rfl) (by decide) (by rfl) (by decide) (by rfl) ?_)))
local macro_rules | `(tactic| walk_at "SrcT") => `(tactic| (k_dflt (refine SrcT.mk' (by first | rfl | assumption) (by k_asm) (by k_asm) (by k_mem) (by exact Nat.le_of_ble_eq_true rfl) ?_); intro g'; lcg_lit))
local macro_rules | `(tactic| walk_at "CompEnd") => `(tactic| (k_dflt ((refine LCg.CompEnd.intro (by assumption) (by assumption) _ (fun _ h9 => h9) (by assumption) ?hS9 ?_); (case hS9 => first | k_mem | exact Or.inr ⟨_, by k_mem, rfl, _, rfl⟩))))
def NumsIn (led : Led) (v : Value) (f : Tri) : Prop :=
  ∃ l t1 t2 t3 n, v = .ref l ∧ (l, ({ cls := .type "list", data := .seq #[.int f.1 t1, .int f.2.1 t2, .int f.2.2 t3] n } : Obj)) ∈ led
theorem NumsIn.mono {a b : Led} {v : Value} {f : Tri} (h : NumsIn a v f) (k : ∀ q ∈ a, q ∈ b) : NumsIn b v f := by
  obtain ⟨l, t1, t2, t3, n, e, m⟩ := h; exact ⟨l, t1, t2, t3, n, e, k _ m⟩
section
variable {w : World} {news : Led}
theorem spec_lnum {p : Int} {a : Addr} {f : Tri} (hx : FormIn news (.ref a) p f) : Spec w 342 [.ref a] news 10 60 (fun led v => NumsIn led v f) := by
  obtain ⟨x, y, z⟩ := f
  obtain ⟨t, a, b, c, e, mt, P1, P2, P3⟩ := hx
  cases e
  dsimp only at P1 P2 P3
  refine spec_def (by k_is) (by k_is) (fun _ => BindsTo.of_eq rfl) (locs rfl) ?_ rfl rfl rfl (by decide) (by kernel_rfl)
  intro mg mb g h₁ L' A s F N X T hh hd hu tk0 Q0 hQ0
  w_strict k_steps
  all_goals exact hQ0 _ _ (back_ (by assumption) (by assumption) (by tb_start) ⟨_, _, _, _, _, rfl, .head _⟩)
end

theorem sub_right {a b : Led} : ∀ q ∈ a, q ∈ b ++ a := fun _ h => List.mem_append_right _ h
local macro_rules | `(tactic| tb_rel) => `(tactic| first | (o_head FQin.mono 1 0 / [by exact sub_right, 7]) | (o_head FormIn.mono 1 0 / [by exact sub_right, 7]) | fail "tb_rel")
def lform (p : Int) (P : Pt) (s : Int) : Tri := match P with
  | none => (s % p, 1 % p, 0 % p)
  | some (x, y) => (x * s % p, y * s % p, s % p)
section
variable {w : World} {news : Led} {p s : Int} {v : Value} {t u : Tok}
theorem spec_lform {P : Pt} (hp : Md p) (hP : PtIn news v P) (oP : PtOk p P) (hs : Sm 512 s) : Spec w 337 [v, .int s t, .int p u] news 12 80 (fun led v => FormIn led v p (lform p P s)) := by
  rcases P with _ | ⟨x1, y1⟩
  · cases hP
    refine spec_def (by k_is) (by k_is) (fun _ => BindsTo.of_eq rfl) (locs rfl) ?_ rfl rfl rfl (by decide) (by kernel_rfl)
    intro mg mb g h₁ L' A s F N X T hh hd hu tk0 Q0 hQ0
    w_strict k_steps
    all_goals (refine hQ0 _ _ (back_ (by assumption) (by assumption) (by tb_start) ⟨_, _, _, _, rfl, .head _, ?_, ?_, ?_⟩) <;> dsimp only [lform] <;> tb_rel)
  · obtain ⟨t, tx, ty, e, m⟩ := hP
    cases e
    have s1 : Sm 512 x1 := hp.sm_of oP.1.1 oP.1.2
    have s2 : Sm 512 y1 := hp.sm_of oP.2.1 oP.2.2
    refine spec_def (by k_is) (by k_is) (fun _ => BindsTo.of_eq rfl) (locs rfl) ?_ rfl rfl rfl (by decide) (by kernel_rfl)
    intro mg mb g h₁ L' A s F N X T hh hd hu tk0 Q0 hQ0
    w_strict k_steps
    all_goals (refine hQ0 _ _ (back_ (by assumption) (by assumption) (by tb_start) ⟨_, _, _, _, rfl, .head _, ?_, ?_, ?_⟩) <;> dsimp only [lform] <;> tb_rel)
end
section
variable {w : World} {mg mb : Str → Option Value} {led : Led} {g₀ : Heap} {L : Addr} {m : Str → Option Value} {A : Around} {s : Shared} {Q E : Value → Shared → Prop} {p : Int} {a : Addr} {f : Tri}
theorem call_lnum (N : News g₀ L s.heap led) (F : Fr g₀ L s.heap m) (X : (hd.heap_1 w.params).In g₀) (T : TR mg mb g₀) (hh : A.handled = none) (hx : FormIn led (.ref a) p f)
    (hdp : A.depth + 10 < recursionLimit) (hun : A.units + 60 < cLine)
    (h : ∀ l h' tk' led' t1 t2 t3 n, Fr g₀ L h' m → News g₀ L h' led' → (∀ q ∈ led, q ∈ led') → (l, ({ cls := .type "list", data := .seq #[.int f.1 t1, .int f.2.1 t2, .int f.2.2 t3] n } : Obj)) ∈ led' →
      Q (.ref l) { s with heap := h', toks := tk' }) :
    wpAny (MM w) A (call (.ref 342) [.ref a]) Q E s :=
  (spec_lnum hx).use F N X T hh hdp hun fun v h' tk' led' F' N' hs ⟨l, t1, t2, t3, n, e, mm⟩ => by subst e; exact h l h' tk' led' t1 t2 t3 n F' N' hs mm
end
local macro_rules | `(tactic| walk_at "call ref") => `(tactic| o_head (342, call_lnum _ _ _ _ [] ()))
def lread (p : Int) (f : Tri) : Pt :=
  if f.2.2 = 0 then none else some (Int.fmod (f.1 * powI f.2.2 (p - 2) p) p, Int.fmod (f.2.1 * powI f.2.2 (p - 2) p) p)
local macro_rules | `(tactic| walk_at "exec For") => `(tactic| (k_here; (rename Fr _ _ _ _ => F'); (with_reducible apply For_unrF); (case _F => with_unfolding_all exact F'); (case hs => (intro _; with_unfolding_all rfl))))
local macro_rules | `(tactic| walk_at "exec For Name Name cons nil") => `(tactic| (k_here; (rename Fr _ _ _ _ => F'); (with_reducible apply For_unrF); (case _F => with_unfolding_all exact F'); (case hs => (intro _; with_unfolding_all rfl))))
theorem iter_unr3 {prog : Program} {w : World} {A : Around} {E : Value → Shared → Prop} {s : Shared} {env : Env} {h₀ : Heap} {Q : Flow → Shared → Prop} {target : Expr} {body : List Stmt} {m : Str → Option Value} {news : Led} {t : Addr} {a b c : Value}
    (F : Fr h₀ env.locals s.heap m) (N : News h₀ env.locals s.heap news) (hm : (t, tupObj [a, b, c]) ∈ news) (hh : A.handled = none)
    (h : ∀ g : Heap, Unr prog w A E h₀ env target body Q (fun i v => #[a, b, c][i]? = some v) [s.heap.objs.size, t] { s with heap := g } 3 0 m news) :
    wpAny (model prog w) A (pyIter (.ref t)) (fun it s₂ => UnrAt prog w A h₀ env target body Q E it s₂) E s :=
  Iter_tuple_unr (items := #[a, b, c]) hh (News.isTup N hm) F N (News.ne_locals N hm) (h _)
local macro_rules | `(tactic| walk_at "pyIter ref") => `(tactic| (k_here; k_dflt ((refine iter_unr3 (by k_asm) (by k_asm) (by k_mem) (by first | rfl | assumption) ?_); intros)))
theorem isList3 {h₀ h : Heap} {L l : Addr} {news : Led} {a b c : Value} {n : Nat} (N : News h₀ L h news) (hm : (l, ({ cls := .type "list", data := .seq #[a, b, c] n } : Obj)) ∈ news) : h.IsList l #[a, b, c] :=
  ⟨_, N.get hm, rfl, n, rfl⟩
local macro_rules | `(tactic| walk_at "assign Tuple") => `(tactic| (k_here; (with_reducible show wpAny _ _ (assign (Expr.Tuple _ _ _) _ (Value.ref _)) _ _ _); k_dflt (o_head kun_list 0 1 2 3 4 5 ?_ / [1, 1, by exact isList3 (by k_asm) (by k_mem), 4, 3, 3]; k_whole); intros))
section
variable {w : World} {news : Led} {p : Int} {a : Addr} {f : Tri} {u : Tok}
theorem spec_lread (hp : Md p) (hx : FormIn news (.ref a) p f) : Spec w 349 [.ref a, .int p u] news 20 120 (fun led v => PtIn led v (lread p f)) := by
  have hx' := hx
  have he2 : 0 ≤ p - 2 := by have := hp.1; omega
  have hp0 := hp.ne
  obtain ⟨x, y, z⟩ := f
  obtain ⟨t, a, b, c, e, mt, P1, P2, P3⟩ := hx
  cases e
  dsimp only at P1 P2 P3
  have s1 : Sm 512 x := P1.sm hp
  have s2 : Sm 512 y := P2.sm hp
  have s3 : Sm 512 z := P3.sm hp
  have b1 := P1.1
  have b2 := P2.1
  have b3 := P3.1
  refine spec_def (by k_is) (by k_is) (fun _ => BindsTo.of_eq rfl) (locs rfl) ?_ rfl rfl rfl (by decide) (by kernel_rfl)
  intro mg mb g h₁ L' A s F N X T hh hd hu tk0 Q0 hQ0
  w_strict k_steps
  all_goals try (exfalso; omega)
  all_goals try dsimp only
  all_goals refine hQ0 _ _ (back_ (by assumption) (by assumption) (by tb_start) ?_)
  all_goals (unfold lread; dsimp only)
  all_goals first
    | (rw [if_pos (by first | assumption | rfl)]; rfl)
    | (rw [if_neg (by assumption)]; exact ⟨_, _, _, rfl, .head _⟩)
end

def ptD : Pt → PyData
  | none => .none
  | some (x, y) => .tuple [.int x, .int y]
theorem ptD_eqv (P Q : Pt) : (ptD P).eqv (ptD Q) = decide (P = Q) := by
  rcases P with _ | ⟨x, y⟩ <;> rcases Q with _ | ⟨x', y'⟩ <;> simp only [ptD, PyData.eqv, PyData.eqvAll]
  · rfl
  · rfl
  · rfl
  · by_cases h : x = x' <;> by_cases k : y = y' <;> simp [h, k]
theorem PtIn.reads {h₀ h : Heap} {L : Addr} {led : Led} {v : Value} {P : Pt} (N : News h₀ L h led) (hP : PtIn led v P) : Reads h v (ptD P) [] := by
  rcases P with _ | ⟨x, y⟩
  · cases hP; exact .none
  · obtain ⟨t, tx, ty, e, m⟩ := hP
    cases e
    exact .tuple (N.get m) rfl rfl (.cons (.int _ _) (.cons (.int _ _) .nil))
theorem ptD_shaped (P : Pt) : PySem.SeqAt.shaped (ptD P) = true := by
  rcases P with _ | ⟨x, y⟩
  · rfl
  · simp [PySem.SeqAt.shaped, ptD, PyData.canLay0, PyData.canLayAll0, PyData.depth, PyData.depthAll]
section
variable {w : World} {mg mb : Str → Option Value} {led : Led} {g₀ : Heap} {L : Addr} {m : Str → Option Value} {A : Around} {s : Shared} {Q E : Value → Shared → Prop} {v1 v2 : Value} {P R : Pt}
theorem pt_eq (N : News g₀ L s.heap led) (h1 : PtIn led v1 P) (h2 : PtIn led v2 R) (hu : A.units + 64 < cLine) (h : Q (.bool (decide (P = R))) s) :
    wpAny (MM w) A (compareOp .Eq v1 v2) Q E s := by
  refine eq_dataH (h1.reads N) (h2.reads N) (ptD_shaped P) (ptD_shaped R) hu ?_
  rw [ptD_eqv]; exact h
end
local macro_rules | `(tactic| walk_at "compareOp Eq") => `(tactic| (k_here; k_dflt (o_head ⟨pt_eq _ () (), 1⟩)))
local macro_rules | `(tactic| walk_at "call ref") => `(tactic| o_head (349, Spec.usePt _ _ _ _ [] (spec_lread _ ())))
section
variable {w : World} {news : Led} {p : Int} {a b : Addr} {f g : Tri} {u : Tok}
theorem spec_lalike (hp : Md p) (hx : FormIn news (.ref a) p f) (hy : FormIn news (.ref b) p g) : Spec w 356 [.ref a, .ref b, .int p u] news 30 200 (fun _ v => v = .bool (decide (lread p f = lread p g))) := by
  refine spec_def (by k_is) (by k_is) (fun _ => BindsTo.of_eq rfl) (locs rfl) ?_ rfl rfl rfl (by decide) (by kernel_rfl)
  intro mg mb g h₁ L' A s F N X T hh hd hu tk0 Q0 hQ0
  w_strict k_steps
  all_goals ((try dsimp only); exact hQ0 _ _ (back_ (by assumption) (by assumption) (by tb_start) rfl))
theorem spec_ltells {x y : Bool} : Spec w 368 [.bool x, .bool y] news 5 40 (fun _ v => v = .bool (x == y)) := by
  cases x <;> cases y <;> (
    refine spec_def (by k_is) (by k_is) (fun _ => BindsTo.of_eq rfl) (locs rfl) ?_ rfl rfl rfl (by decide) (by kernel_rfl)
    intro mg mb g h₁ L' A s F N X T hh hd hu tk0 Q0 hQ0
    w_strict k_steps
    all_goals try dsimp only
    all_goals exact hQ0 _ _ (back_ (by assumption) (by assumption) (by tb_start) rfl))
end

theorem spec_defC {w : World} {name qual : Str} {params : Arguments} {body : List Stmt} {scope : Scope} {dV kV doc pm cdv ct oc : Value} {an od : Option Addr} {osl : Array (Option Value)} {f : Addr} {vs : List Value} {news : Led} {dn un : Nat}
    {Post : Led → Value → Prop} {binds : List (Str × Value)}
    (ho : (hd.heap_1 w.params).lookup f = some ⟨oc, od, .func (fnOf name qual params body scope dV kV doc pm an cdv ct), osl⟩) (hcd : codeIn (hd.heap_1 w.params) cdv qual = true)
    (hbind : ∀ s, BindsTo s (fnOf name qual params body scope dV kV doc pm an cdv ct) ⟨vs, []⟩ binds)
    (hkind : (binds.all fun y => scope.names.lookup y.1 == some .local || scope.names.lookup y.1 == some .cell) = true)
    (hnd : ((cellsFrom 0 scope.names []).map (·.1)).Nodup)
    (h : ∀ (mg mb : Str → Option Value) (g h₁ : Heap) (L' : Addr) (A : Around) (s : Shared) (tk : Nat) (cells : Led), Fr g L' h₁ (bindL (envOfC qual scope L' f cdv).kindOf ((namesOf params).zip vs) fun _ => none) → News g L' h₁ (cells ++ news) →
      CellsAre (bindC (envOfC qual scope L' f cdv).kindOf ((namesOf params).zip vs) fun _ => none) (cellsFrom (L' + 1) scope.names []) cells → (hd.heap_1 w.params).In g → TR mg mb g → A.handled = none →
      A.depth + dn < recursionLimit → A.units + un < cLine → (∀ p ∈ news, @LT.lt Nat _ p.1 L') →
      ∀ Q : Flow → Shared → Prop, (∀ v s', Back news Post g s v s' → Q (.ret v) s') →
      wpAny (MM w) (A.deeper (envOfC qual scope L' f cdv)) (execs body (envOfC qual scope L' f cdv)) Q (fun _ _ => False)
        { s with heap := h₁, toks := tk })
    (hco : scope.isCoroutine = false) (hgen : scope.isGenerator = false) (hk : scope.kind = .function) (hn : binds = (namesOf params).zip vs) : Spec w f vs news dn un Post := by
  subst hn
  intro mg mb g A s X T st sz l hh hdp hun
  refine codeAny_call_function (Nat.lt_of_le_of_lt (Nat.le_add_right _ _) hdp) ((X.keeps st) _ _ ho) rfl hco hgen rfl (codeRec_of (X.keeps st) hcd) (hbind s _ _ _ _ ?_)
  refine wpAny_newFunctionEnv_cells hk (kindsX hkind _) fun env' he s' x => ?_
  subst he
  refine ⟨(T.nolimit.keeps st).keeps x.toInCall.keep, codeAny_func ?_⟩
  obtain ⟨h₁, tk, rfl, _⟩ := x.done
  have hk₁ := x.toInCall.keep
  obtain ⟨cells, NC, Y⟩ := Cl.news (h₀ := s.heap) (Nat.le_refl _) fun n c hm => ⟨x.cell n c (lookup_of_mem_nodup (cellsFrom_names scope.names 0 (s.heap.objs.size + 1) [] [] rfl ▸ hnd) hm), x.above n c hm⟩
  refine wpAny_mono (h mg mb g h₁ s.heap.objs.size A s tk cells ⟨x.toInCall.ns, fun b o e => hk₁ b o (st b o e), sz⟩ (fun p hp => ?_) Y X T hh hdp hun (fun p hp => Heap.lt_size (l p hp).1) (fun fl s' => Back news Post g s (match fl with | .ret v => v | _ => .none) s') (fun _ _ q => q)) ?_ fun _ _ q => q.elim
  · rcases List.mem_append.mp hp with hp | hp
    · refine ⟨(NC p hp).1, (NC p hp).2.1, ?_⟩
      cases q : g.get? p.1 with
      | none => rfl
      | some o => have := st _ _ q; rw [(NC p hp).2.2] at this; cases this
    · exact ⟨hk₁ _ _ (l p hp).1, Nat.ne_of_lt (Heap.lt_size (l p hp).1), (l p hp).2⟩
  · rintro fl s' ⟨L, m, h', tk', led, rfl, F', N', hs, P⟩
    exact ⟨_, h', tk', led, rfl, rfl, F'.keep, fun p hp => ⟨(N' p hp).1, (N' p hp).2.2⟩, hs, P⟩

theorem lst_item {w : World} {A : Around} {E : Value → Shared → Prop} {s : Shared} {g₀ : Heap} {L l : Addr} {led : Led} {value slice : PySem.Expr} {vs : Array Value} {n : Nat} {k : Int} {u : Tok} {v : Value} {Q : Value → Shared → Prop}
    (N : News g₀ L s.heap led) (hm : (l, ({ cls := .type "list", data := .seq vs n } : Obj)) ∈ led) (h0 : 0 ≤ k) (hhi : k < 2 ^ 63) (hx : vs.toList[k.toNat]? = some v) (h : Q v s)
    (hs : subscripted slice false (.ref l) (.int k u) = operate [.ref l, .int k u] (getItem (.ref l) (.int k u)) := by with_unfolding_all rfl) :
    wpAny (MM w) A (subscriptTail value slice (.ref l) (.int k u)) Q E s :=
  have hl : s.heap.IsList l vs := ⟨_, N.get hm, rfl, n, rfl⟩
  tail_any hl.typeIs slot_list_getitem.lookup (wpAny_getItem_list hl h0 hhi (by rw [← Array.getElem?_toList]; exact hx) h) hs
local macro_rules | `(tactic| walk_at "subscriptTail") => `(tactic| (k_here; (with_reducible show wpAny _ _ (subscriptTail _ _ (Value.ref _) (Value.int _ _)) _ _ _); k_dflt (o_head lst_item (n := _) 0 1 2 3 4 ?_ / [1, 2, 5, 5, 10])))
theorem lt_tail {l : Addr} {c : Addr × Obj} {news : Led} (h : ∀ p ∈ [c] ++ news, p.1 < l) : ∀ p ∈ news, p.1 ≠ l := fun q hq => Nat.ne_of_lt (h q (.tail _ hq))
local macro_rules | `(tactic| k_all) => `(tactic| ((refine lt_tail ?_); assumption))
/-- what one turn of a comprehension's block gives -/
def TurnEnd (R : Value → Led → Prop) (h₀ : Heap) (L : Addr) (m : Str → Option Value) (s : Shared) (I : Addr) (oI : Obj) (C : Addr) (oC : Obj) (D : Addr) (oD : Obj) (news : Led) (y : Value) (s₂ : Shared) : Prop :=
  ∃ h' tk' led, s₂ = { s with heap := h', toks := tk' } ∧ Fr h₀ L h' m ∧ News h₀ L h' ((I, oI) :: (C, oC) :: (D, oD) :: led) ∧ LCg.Off3 I C D led ∧ (∀ q ∈ news, q ∈ led) ∧ R y led
theorem turnEnd_ {R : Value → Led → Prop} {h₀ : Heap} {L : Addr} {m : Str → Option Value} {s : Shared} {I C D : Addr} {oI oC oD : Obj} {news led : Led} {y : Value} {h' : Heap} {tk' : Nat}
    (F : Fr h₀ L h' m) (N : News h₀ L h' ((I, oI) :: (C, oC) :: (D, oD) :: led)) (off : LCg.Off3 I C D led) (hs : ∀ q ∈ news, q ∈ led) (r : R y led) : TurnEnd R h₀ L m s I oI C oC D oD news y { s with heap := h', toks := tk' } := ⟨h', tk', led, rfl, F, N, off, hs, r⟩
section
variable {w : World} {A : Around} {h₀ : Heap} {L : Addr} {m : Str → Option Value} {s : Shared} {elt : PySem.Expr} {x : Str} {scope : PySem.Scope} {cl : List (Str × Addr)} {env : Env} {S : Led → Prop} {P : Nat → Value → Prop} {Fin : List Value → Led → Prop} {R : Nat → Value → Led → Prop} {base : Led}
theorem comp_rest_at (hR : ∀ i y l l', R i y l → (∀ q ∈ l, q ∈ l') → R i y l') (hS : ∀ l, (∀ q ∈ base, q ∈ l) → S l) (n : Nat)
    (H : ∀ i v I oI C oC D oD m₂ h tk (E' : Value → Shared → Prop) news, i < n → P i v → LCg.NsObj oC m₂ → m₂ x = some v → Fr h₀ L h m → News h₀ L h ((I, oI) :: (C, oC) :: (D, oD) :: news) → LCg.Off3 I C D news → ((@Ne Nat I C) ∧ (@Ne Nat I D) ∧ (@Ne Nat C D)) → (∀ q ∈ base, q ∈ news) →
      wpAny (MM w) A (eval elt (compEnvC scope cl C env)) (TurnEnd (R i) h₀ L m s I oI C oC D oD news) E' { s with heap := h, toks := tk })
    (hF : ∀ ys led, (∀ q ∈ base, q ∈ led) → ys.length = n → (∀ i y, ys[i]? = some y → R i y led) → Fin ys led) :
    ∀ k i ys news, i + k = n → ys.length = i → (∀ q ∈ base, q ∈ news) → (∀ j y, ys[j]? = some y → R j y news) → LCg.CompRest PySem.Challenge.rw_lh0030_01.row.prog w A h₀ L m env elt x scope cl s S P Fin k i ys news
  | 0, i, ys, news, e, el, hb, hy => hF ys news hb (by omega) hy
  | k + 1, i, ys, news, e, el, hb, hy => by
    intro v I oI C oC D m₂ h tk E' hP hC hx F N off ne
    refine wpAny_mono (H i v I oI C oC D (LCg.lst ys) m₂ h tk E' news (by omega) hP hC hx F N off ne hb) (fun y s₂ h₂ => ?_) fun _ _ q => q
    obtain ⟨h', tk', led, rfl, F', N', off', hs, r⟩ := h₂
    refine ⟨h', tk', led, rfl, F', N', off', hS _ fun q hq => hs q (hb q hq), comp_rest_at hR hS n H hF k (i + 1) (ys ++ [y]) led (by omega) (by rw [List.length_append, List.length_singleton, el]) (fun q hq => hs q (hb q hq)) fun j z hj => ?_⟩
    by_cases hlt : j < ys.length
    · rw [List.getElem?_append_left hlt] at hj
      exact hR _ _ _ _ (hy j z hj) hs
    · rw [List.getElem?_append_right (by omega)] at hj
      obtain ⟨h9, h8⟩ := List.getElem?_eq_some_iff.mp hj
      have : j = i := by simp at h9; omega
      subst this
      simp at h8
      exact h8 ▸ r
theorem comp_rest (hR : ∀ i y l l', R i y l → (∀ q ∈ l, q ∈ l') → R i y l') (hS : ∀ l, (∀ q ∈ base, q ∈ l) → S l) (n : Nat)
    (H : ∀ i v I oI C oC D oD m₂ h tk (E' : Value → Shared → Prop) news, i < n → P i v → LCg.NsObj oC m₂ → m₂ x = some v → Fr h₀ L h m → News h₀ L h ((I, oI) :: (C, oC) :: (D, oD) :: news) → LCg.Off3 I C D news → ((@Ne Nat I C) ∧ (@Ne Nat I D) ∧ (@Ne Nat C D)) → (∀ q ∈ base, q ∈ news) →
      wpAny (MM w) A (eval elt (compEnvC scope cl C env)) (TurnEnd (R i) h₀ L m s I oI C oC D oD news) E' { s with heap := h, toks := tk })
    (hF : ∀ ys led, (∀ q ∈ base, q ∈ led) → ys.length = n → (∀ i y, ys[i]? = some y → R i y led) → Fin ys led) :
    LCg.CompRest PySem.Challenge.rw_lh0030_01.row.prog w A h₀ L m env elt x scope cl s S P Fin n 0 [] base :=
  comp_rest_at hR hS n H hF n 0 [] base (by omega) rfl (fun _ h => h) fun j y hj => by simp at hj
end
/-- a call whose ledger leaves out three objects of the heap -/
theorem Spec.useO {w : World} {f : Addr} {vs : List Value} {news : Led} {dn un : Nat} {Post : Led → Value → Prop} {mg mb : Str → Option Value}
    {g₀ : Heap} {L : Addr} {m : Str → Option Value} {A : Around} {s : Shared} {Q E : Value → Shared → Prop} {I C D : Addr} {oI oC oD : Obj}
    (off : LCg.Off3 I C D news) (N : News g₀ L s.heap ((I, oI) :: (C, oC) :: (D, oD) :: news)) (F : Fr g₀ L s.heap m) (X : (hd.heap_1 w.params).In g₀) (T : TR mg mb g₀)
    (hh : A.handled = none) (S : Spec w f vs news dn un Post) (hdp : A.depth + dn < recursionLimit) (hun : A.units + un < cLine)
    (h : ∀ v h' tk' led, Fr g₀ L h' m → News g₀ L h' ((I, oI) :: (C, oC) :: (D, oD) :: led) → LCg.Off3 I C D led → (∀ q ∈ news, q ∈ led) → Post led v → Q v { s with heap := h', toks := tk' }) :
    wpAny (MM w) A (call (.ref f) vs) Q E s := by
  refine wpAny_call ?_
  have N₀ : News g₀ L s.heap news := fun p hp => N p (.tail _ (.tail _ (.tail _ hp)))
  have nm : ∀ b o, g₀.get? b = some o → b ∉ news.map Prod.fst := fun b o e q => by
    obtain ⟨p, hp, rfl⟩ := List.mem_map.mp q
    rw [(N₀ p hp).2.2] at e; cases e
  have st : g₀.StaysIn (hideAll s.heap (news.map Prod.fst)) := fun b o e => hideAll_get _ (F.keep b o e) (nm b o e)
  obtain ⟨oL, es, ep, hL, hLd, hLk, hLf⟩ := F.ns
  have nL : L ∉ news.map Prod.fst := fun q => by
    obtain ⟨p, hp, e⟩ := List.mem_map.mp q
    exact (N₀ p hp).2.1 e
  have hLg := hideAll_get (news.map Prod.fst) hL nL
  have of := off.mem
  have gI := hideAll_get (news.map Prod.fst) (N (I, oI) (.head _)).1 fun q => by obtain ⟨p, hp, e⟩ := List.mem_map.mp q; exact (of p hp).1 e
  have gC := hideAll_get (news.map Prod.fst) (N (C, oC) (.tail _ (.head _))).1 fun q => by obtain ⟨p, hp, e⟩ := List.mem_map.mp q; exact (of p hp).2.1 e
  have gD := hideAll_get (news.map Prod.fst) (N (D, oD) (.tail _ (.tail _ (.head _)))).1 fun q => by obtain ⟨p, hp, e⟩ := List.mem_map.mp q; exact (of p hp).2.2 e
  refine codeAny_mono (S mg mb (hideAll s.heap (news.map Prod.fst)) A s (X.keeps st) (T.keeps st) (fun b o e => of_hideAll _ e) (Nat.le_of_eq (hideAll_size _ _))
    (fun p hp => ⟨(N₀ p hp).1, hideAll_none _ (List.mem_map_of_mem hp)⟩) hh hdp hun) ?_
  rintro r s' ⟨v, h', tk', led, rfl, rfl, k, l, hs, P⟩
  refine h v h' tk' led ⟨⟨oL, es, ep, k _ _ hLg, hLd, hLk, hLf⟩, fun b o e => k b o (st b o e), F.above⟩ (fun p hp => ?_) (LCg.Off3.of fun p hp => ⟨fun q => ?_, fun q => ?_, fun q => ?_⟩) hs P
  · rcases List.mem_cons.mp hp with rfl | hp
    · exact ⟨k _ _ gI, (N (I, oI) (.head _)).2⟩
    · rcases List.mem_cons.mp hp with rfl | hp
      · exact ⟨k _ _ gC, (N (C, oC) (.tail _ (.head _))).2⟩
      · rcases List.mem_cons.mp hp with rfl | hp
        · exact ⟨k _ _ gD, (N (D, oD) (.tail _ (.tail _ (.head _)))).2⟩
        · refine ⟨(l p hp).1, fun q => ?_, ?_⟩
          · have := (l p hp).2; rw [q, hLg] at this; cases this
          · cases q : g₀.get? p.1 with
            | none => rfl
            | some o => have := (l p hp).2; rw [st _ _ q] at this; cases this
  · have := (l p hp).2; rw [q, gI] at this; cases this
  · have := (l p hp).2; rw [q, gC] at this; cases this
  · have := (l p hp).2; rw [q, gD] at this; cases this
theorem sub5 {a b c d e : Addr × Obj} {news : Led} : ∀ q ∈ (c :: d :: e :: a :: b :: news), q ∈ (a :: b :: c :: d :: e :: news) := by
  intro q hq
  simp only [List.mem_cons] at hq ⊢
  rcases hq with h | h | h | h | h | h <;> simp [h]
/-- FQ(n, p), with the two objects in sight -/
theorem fq_newO {w : World} {mg mb : Str → Option Value} {news : Led} {g₀ : Heap} {L : Addr} {m : Str → Option Value} {A : Around} {s : Shared} {Q E : Value → Shared → Prop} {n p : Int} {t u : Tok} {I C D : Addr} {oI oC oD : Obj}
    (off : LCg.Off3 I C D news) (N : News g₀ L s.heap ((I, oI) :: (C, oC) :: (D, oD) :: news)) (F : Fr g₀ L s.heap m) (X : (hd.heap_1 w.params).In g₀) (T : TR mg mb g₀) (hp : Md p) (hroom : A.depth + 2 < recursionLimit)
    (h : ∀ x h' tk' led, Fr g₀ L h' m → News g₀ L h' ((I, oI) :: (C, oC) :: (D, oD) :: led) → LCg.Off3 I C D led → (∀ q ∈ news, q ∈ led) → FQin led (.ref x) p (n % p) → Q (.ref x) { s with heap := h', toks := tk' }) :
    wpAny (MM w) A (call (.ref 242) [.int n t, .int p u]) Q E s := by
  have hp0 := hp.ne
  have hb : 0 ≤ Int.fmod n p ∧ Int.fmod n p < p := by rw [fmod_pos hp]; exact ⟨Int.emod_nonneg _ hp0, Int.emod_lt_of_pos _ hp.pos⟩
  rw [← fmod_pos hp] at h
  refine call_cls F X N (by k_is) (by k_is) (by k_is) fun x dx h' F' N' l1 l2 => ?_
  refine def_in F' N' X T ?_ (by k_is) (by k_is) (BindsTo.of_eq rfl) (locs rfl) ?_ rfl rfl rfl (by decide)
  · simp only [depth_under_make]; omega
  intro g h₁ L' FG F1 N1 X1 T1
  have bI : @LT.lt Nat _ I dx := l1 (I, oI) (.head _)
  have bC : @LT.lt Nat _ C dx := l1 (C, oC) (.tail _ (.head _))
  have bD : @LT.lt Nat _ D dx := l1 (D, oD) (.tail _ (.tail _ (.head _)))
  replace l1 : ∀ p ∈ news, p.1 < dx := fun p hp => l1 p (.tail _ (.tail _ (.tail _ hp)))
  have hoff : ∀ o1 o2, LCg.Off3 I C D ((x, o1) :: (dx, o2) :: news) := fun o1 o2 => ⟨⟨Ne.symm (Nat.ne_of_lt (Nat.lt_trans bI l2)), Ne.symm (Nat.ne_of_lt (Nat.lt_trans bC l2)), Ne.symm (Nat.ne_of_lt (Nat.lt_trans bD l2))⟩, ⟨Ne.symm (Nat.ne_of_lt bI), Ne.symm (Nat.ne_of_lt bC), Ne.symm (Nat.ne_of_lt bD)⟩, off⟩
  k_lt2 l2
  k_steps
  all_goals (rename News _ _ _ _ => N9; refine h _ _ _ _ (by assumption) (News.perm N9 sub5) (hoff _ _) (fun q hq => .tail _ (.tail _ hq)) ⟨hb, x, dx, _, _, _, _, _, _, rfl, .head _, .tail _ (.head _)⟩)
abbrev gvObj (g0 g1 g2 g3 g4 g5 g6 g7 g8 g9 g10 : Int) (t0 t1 t2 t3 t4 t5 t6 t7 t8 t9 t10 : Tok) (n : Nat) : Obj :=
  { cls := .type "list", data := .seq #[.int g0 t0, .int g1 t1, .int g2 t2, .int g3 t3, .int g4 t4, .int g5 t5, .int g6 t6, .int g7 t7, .int g8 t8, .int g9 t9, .int g10 t10] n }
theorem fm0 {a p : Int} (hp : Md p) : Int.fmod a p % p = 0 ↔ Int.fmod a p = 0 := by
  rw [fmod_pos hp, Int.emod_emod_of_dvd _ (Int.dvd_refl _)]
def anyR (its : Array Value) (p : Int) (i : Nat) (y : Value) (l : Led) : Prop := ∀ n t, its[i]? = some (.int n t) → FQin l y p (n % p)
theorem anyR_mono {p : Int} {its : Array Value} : ∀ i y l l', anyR its p i y l → (∀ q ∈ l, q ∈ l') → anyR its p i y l' := fun _ _ _ _ h k n t e => (h n t e).mono k
local macro_rules | `(tactic| walk_at "call ref") => `(tactic| (k_here; k_dflt (o_head 242; o_head ⟨fq_newO _ _ _ _ _ _, 1⟩; intros)))
theorem comp_any {w : World} {A : Around} {h₀ : Heap} {L : Addr} {m : Str → Option Value} {s : Shared} {elt : PySem.Expr} {x : Str} {scope : PySem.Scope} {cl : List (Str × Addr)} {env : Env} {S : Led → Prop} {Fin : List Value → Led → Prop} {base : Led} {its : Array Value} {p : Int}
    (hS : ∀ l, (∀ q ∈ base, q ∈ l) → S l)
    (H : ∀ i v I oI C oC D oD m₂ h tk (E' : Value → Shared → Prop) news, i < its.size → its[i]? = some v → LCg.NsObj oC m₂ → m₂ x = some v → Fr h₀ L h m → News h₀ L h ((I, oI) :: (C, oC) :: (D, oD) :: news) → LCg.Off3 I C D news → ((@Ne Nat I C) ∧ (@Ne Nat I D) ∧ (@Ne Nat C D)) → (∀ q ∈ base, q ∈ news) →
      wpAny (MM w) A (eval elt (compEnvC scope cl C env)) (TurnEnd (anyR its p i) h₀ L m s I oI C oC D oD news) E' { s with heap := h, toks := tk })
    (hF : ∀ ys led, (∀ q ∈ base, q ∈ led) → ys.length = its.size → (∀ i y, ys[i]? = some y → anyR its p i y led) → Fin ys led) :
    LCg.CompRest PySem.Challenge.rw_lh0030_01.row.prog w A h₀ L m env elt x scope cl s S (fun i v => its[i]? = some v) Fin its.size 0 [] base :=
  comp_rest (R := anyR its p) anyR_mono hS _ H hF
theorem ints3 {a b c : Int} {ta tb tc : Tok} {i : Nat} {v : Value} (h : (#[.int a ta, .int b tb, .int c tc] : Array Value)[i]? = some v) : ∃ n t, v = .int n t := by
  match i, h with
  | 0, h => cases h; exact ⟨_, _, rfl⟩
  | 1, h => cases h; exact ⟨_, _, rfl⟩
  | 2, h => cases h; exact ⟨_, _, rfl⟩
  | k + 3, h => exact absurd h (by simp)
theorem three {ys : List Value} (h : ys.length = 3) : ∃ a b c, ys = [a, b, c] := by
  match ys, h with
  | [a, b, c], _ => exact ⟨a, b, c, rfl⟩
section
variable {w : World} {news : Led} {p : Int} {l : Addr} {t u : Tok} {g0 g1 g2 g3 g4 g5 g6 g7 g8 g9 g10 : Int} {t0 t1 t2 t3 t4 t5 t6 t7 t8 t9 t10 : Tok} {n : Nat}
theorem spec_lany (hp : Md p) (hx : (l, gvObj g0 g1 g2 g3 g4 g5 g6 g7 g8 g9 g10 t0 t1 t2 t3 t4 t5 t6 t7 t8 t9 t10 n) ∈ news) :
    Spec w 361 [.ref l, .int 7 t, .int p u] news 20 120 (fun led v => ∃ f, FormIn led v p f ∧ f ≠ (0, 0, 0)) := by
  have hp0 := hp.ne
  refine spec_defC (by k_is) (by k_is) (fun _ => BindsTo.of_eq rfl) rfl (by decide) ?_ rfl rfl rfl (by kernel_rfl)
  intro mg mb g h₁ L' A s tk cells F N Y X T hh hd hu hlt Q0 hQ0
  obtain ⟨o', hE', d1'⟩ := CellsAre.one Y
  subst hE'
  clear Y
  replace N : News g L' h₁ ((L' + 1, o') :: news) := N
  w_strict k_steps
  all_goals (refine' LCg.CompSrc.ledger ?a1 ?a2 ?a3 ?a4 ?a5 (fun g' => ?_); (case a1 => k_dflt assumption); (case a2 => k_asm); (case a3 => k_asm); (case a4 => k_mem); (case a5 => exact Nat.le_of_ble_eq_true rfl))
  all_goals (refine comp_any (p := p) (fun l hl => Or.inr ⟨_, hl _ (by k_mem), rfl, _, rfl⟩) ?_ ?_)
  all_goals (try (intro i v I oI C oC D oD m₂ h tk E' news' hi hv hC hx F N off ne hb))
  all_goals (try ((with_reducible show wpAny _ _ _ _ _ _); obtain ⟨nv, tv, rfl⟩ := ints3 hv; k_steps))
  all_goals (try ((with_reducible show TurnEnd _ _ _ _ _ _ _ _ _ _ _ _ _ _); refine turnEnd_ (by assumption) (by assumption) (by assumption) (by tb_start) (fun n9 t9 e9 => ?_); rw [hv] at e9; cases e9; assumption))
  all_goals (intro ys led hb hl hr; obtain ⟨ya, yb, yc, rfl⟩ := three hl; have r0 := hr 0 ya rfl _ _ rfl; have r1 := hr 1 yb rfl _ _ rfl; have r2 := hr 2 yc rfl _ _ rfl; clear hr hl; obtain ⟨xa, rfl⟩ := r0.isRef; obtain ⟨xb, rfl⟩ := r1.isRef; obtain ⟨xc, rfl⟩ := r2.isRef)
  all_goals k_steps
  all_goals (refine hQ0 _ _ (back_ (by assumption) (by assumption) (by tb_start) ⟨(_, _, _), ⟨_, _, _, _, rfl, .head _, by tb_rel, by tb_rel, by tb_rel⟩, fun e9 => ?_⟩))
  all_goals simp only [Prod.mk.injEq] at e9
  all_goals obtain ⟨e0, e1, e2⟩ := e9
  all_goals first
    | (exact absurd e1 (by rw [Int.emod_eq_of_lt (by decide) hp.1]; decide))
    | (rw [fm0 hp] at e0 e1; (try rw [fm0 hp] at e2); simp_all; done)
    | fail "any"
end

abbrev primesObj (t0 t1 t2 t3 t4 t5 t6 t7 t8 t9 t10 t11 : Tok) (n : Nat) : Obj := { cls := .type "list", data := .seq #[.int 7 t0, .int 11 t1, .int 19 t2, .int 23 t3, .int 31 t4, .int 43 t5, .int 251 t6, .int 1019 t7, .int 65519 t8, .int 65423 t9, .int 4002409555221667393417789825735904156556882819939007885332058136124031650490837864442687629129015664037894272559787 t10, .int 21888242871839275222246405745257275088696311157297823662689037894645226208583 t11] n }
inductive PrimesIn (led : Led) : Value → Prop
  | mk (l : Addr) (t0 t1 t2 t3 t4 t5 t6 t7 t8 t9 t10 t11 : Tok) (n : Nat) (hm : (l, primesObj t0 t1 t2 t3 t4 t5 t6 t7 t8 t9 t10 t11 n) ∈ led) : PrimesIn led (.ref l)
theorem spec_lprimes {w : World} {news : Led} : Spec w 309 [] news 5 20 (fun led v => PrimesIn led v) := by
  refine spec_def (by k_is) (by k_is) (fun _ => BindsTo.of_eq rfl) (locs rfl) ?_ rfl rfl rfl (by decide) (by kernel_rfl)
  intro mg mb g h₁ L' A s F N X T hh hd hu tk0 Q0 hQ0
  w_strict k_steps
  all_goals exact hQ0 _ _ (back_ (by assumption) (by assumption) (by tb_start) (.mk _ _ _ _ _ _ _ _ _ _ _ _ _ _ (.head _)))

def oppI (p : Int) (P : Pt) : Pt := P.map fun q => (q.1, Int.fmod (-q.2) p)
/-- what the plain law must show for one script -/
structure Right (p c : Int) (P R : Pt) (f g q : Tri) (n : Int) : Prop where
  okP : PtOk p P
  okR : PtOk p R
  r0 : 0 ≤ f.2.2
  rd0 : lread p (addI p f g) = ladd p P R
  rd1 : lread p (dblI p f) = ladd p P P
  rd2 : lread p (negI p f) = oppI p P
  rd3 : lread p (mulI p 20 g n) = ltimesF p 20 none R n
  bad : P ≠ none → R ≠ none → ladd p P R = none → addI p f g ≠ (0, 0, 0)
  inf : f.2.2 = 0 ↔ P = none
  onq : onI p q c ↔ (q.2.2 = 0 ∨ Int.fmod (q.2.1 * q.2.1 * q.2.2 - q.1 * q.1 * q.1 - c * q.2.2 * q.2.2 * q.2.2) p = 0)
  ona : onI p (addI p f g) c
  efg : eqI p f g ↔ P = R
  efq : eqI p f q ↔ lread p f = lread p q
  eqq : eqI p q q
  gcd : P ≠ none → Int.gcd f.2.2 p = 1
  quo : ∀ x y, P = some (x, y) → ∀ r, 0 ≤ r → r < p → (f.2.2 * r) % p = 1 → f.1 * r % p = x ∧ f.2.1 * r % p = y

section
namespace Nth
theorem bits_step {e j : Nat} : e / 2 ^ j = 2 * (e / 2 ^ (j + 1)) + (if e.testBit j then 1 else 0) := by
  have h : e / 2 ^ (j + 1) = e / 2 ^ j / 2 := by rw [Nat.pow_succ, Nat.div_div_eq_div_mul]
  rw [h, Nat.testBit_eq_decide_div_mod_eq]
  by_cases q : e / 2 ^ j % 2 = 1
  · rw [decide_eq_true q, if_pos rfl]; omega
  · rw [decide_eq_false q, if_neg (by simp)]; omega
theorem fold_pow (b e m : Nat) : ∀ j, ((List.range j).reverse).foldl (fun p i => if e.testBit i then p * p % m * b % m else p * p % m) (b ^ (e / 2 ^ j) % m) = b ^ e % m
  | 0 => by simp
  | j + 1 => by
    rw [List.range_succ, List.reverse_append, List.reverse_singleton, List.singleton_append, List.foldl_cons]
    rw [← fold_pow b e m j]
    congr 1
    rw [bits_step (e := e) (j := j)]
    split
    · rw [← Nat.mul_mod, ← Nat.pow_add, Nat.mod_mul_mod, ← Nat.pow_succ]
      congr 2; omega
    · rw [← Nat.mul_mod, ← Nat.pow_add]
      congr 2; omega
theorem powMod_eq (b e m : Nat) : Builtin.powMod b e m = b ^ e % m := by
  unfold Builtin.powMod
  have h : e / 2 ^ (Builtin.Int.intBits ((e : Nat) : Int)) = 0 := by
    apply Nat.div_eq_of_lt
    unfold Builtin.Int.intBits
    by_cases z : e = 0
    · subst z; decide
    · have : (((e : Nat) : Int) == 0) = false := by simp; exact z
      rw [this]
      exact Nat.lt_log2_self
  have := fold_pow b e m (Builtin.Int.intBits ((e : Nat) : Int))
  rw [h] at this
  exact this
/-- the inverse by Fermat -/
theorem powI_inv {p : Nat} (hp : Pr p) (a : Int) : (a % (p : Int) = 0 → p ≠ 2 → powI a ((p : Int) - 2) p = 0) ∧ (a % (p : Int) ≠ 0 → (a * powI a ((p : Int) - 2) p) % (p : Int) = 1) := by
  have h1 := hp.1
  have hx : ((p : Int) - 2).natAbs = p - 2 := by omega
  unfold powI
  rw [Int.natAbs_natCast, hx, powMod_eq]
  obtain ⟨b, hb⟩ : ∃ b : Nat, a % (p : Int) = b := ⟨(a % (p : Int)).toNat, by have := Int.emod_nonneg a (show (p : Int) ≠ 0 by omega); omega⟩
  rw [hb, Int.toNat_natCast]
  constructor
  · intro z z2
    have : b = 0 := by omega
    subst this
    rw [Nat.zero_pow (by omega), Nat.zero_mod]; rfl
  · intro z
    have nb : ¬ p ∣ b := by
      intro d
      have hlt : b < p := by have := Int.emod_lt_of_pos a (show 0 < (p : Int) by omega); omega
      have := Nat.le_of_dvd (by omega) d
      omega
    have f := fermat hp nb
    rw [Int.mul_emod, hb]
    have e : ((b : Int) * (((b ^ (p - 2) % p : Nat) : Int) % (p : Int))) % (p : Int) = ((b * (b ^ (p - 2) % p % p) % p : Nat) : Int) := by simp only [Int.natCast_emod, Int.natCast_mul]
    rw [e, Nat.mod_mod, Nat.mul_mod_mod, ← Nat.pow_succ', show (p - 2).succ = p - 1 by omega, f]
    rfl
end Nth

end
section
structure Red {F : Type} [Lean.Grind.Field F] (p : Int) (φ : Int → F) : Prop where
  p3 : 3 < p
  zero : φ 0 = 0
  one : φ 1 = 1
  add : ∀ a b, φ (a + b) = φ a + φ b
  sub : ∀ a b, φ (a - b) = φ a - φ b
  mul : ∀ a b, φ (a * b) = φ a * φ b
  neg : ∀ a, φ (-a) = - φ a
  eq : ∀ {a b}, φ a = φ b ↔ a % p = b % p
  inv : ∀ a, φ (powI a (p - 2) p) = (φ a)⁻¹
section
open Lean.Grind
/-- the class of an int -/
def toZ (p : Nat) [NeZero p] (a : Int) : _root_.Fin p := (Ring.intCast (α := _root_.Fin p)).intCast a
variable {p : Nat} [NeZero p]
theorem toZ_add (a b : Int) : toZ p (a + b) = toZ p a + toZ p b := Ring.intCast_add a b
theorem toZ_sub (a b : Int) : toZ p (a - b) = toZ p a - toZ p b := Ring.intCast_sub a b
theorem toZ_mul (a b : Int) : toZ p (a * b) = toZ p a * toZ p b := Ring.intCast_mul a b
theorem toZ_neg (a : Int) : toZ p (-a) = - toZ p a := Ring.intCast_neg a
theorem toZ_zero : toZ p 0 = 0 := Ring.intCast_zero
theorem toZ_one : toZ p 1 = 1 := Ring.intCast_one
theorem toZ_eq {a b : Int} : toZ p a = toZ p b ↔ a % (p : Int) = b % (p : Int) := IsCharP.intCast_ext_iff p
theorem toZ_val (x : _root_.Fin p) : toZ p (x.val : Int) = x := by
  have : toZ p (x.val : Int) = (Semiring.natCast (α := _root_.Fin p)).natCast x.val := Ring.intCast_natCast x.val
  rw [this]
  exact Fin.ext (Nat.mod_eq_of_lt x.isLt)
def zinv (x : _root_.Fin p) : _root_.Fin p := toZ p (powI (x.val : Int) ((p : Int) - 2) p)
def zpw (a : _root_.Fin p) : Int → _root_.Fin p
  | .ofNat k => a ^ k
  | .negSucc k => zinv (a ^ (k + 1))
theorem toZ_inv (hp : Nth.Pr p) (h3 : 3 < p) (a : Int) : toZ p (powI a ((p : Int) - 2) p) = zinv (toZ p a) := by
  have key : ∀ a b : Int, toZ p a = toZ p b → powI a ((p : Int) - 2) p = powI b ((p : Int) - 2) p := by
    intro a b h
    have h := toZ_eq.mp h
    unfold powI
    rw [Int.natAbs_natCast, h]
  unfold zinv
  rw [key a _ (toZ_val _).symm]
theorem zinv_zero (hp : Nth.Pr p) (h3 : 3 < p) : zinv (0 : _root_.Fin p) = 0 := by
  rw [← toZ_zero, ← toZ_inv hp h3, (Nth.powI_inv hp 0).1 (by simp) (by omega)]
theorem zinv_mul (hp : Nth.Pr p) (h3 : 3 < p) {a : _root_.Fin p} (h : a ≠ 0) : a * zinv a = 1 := by
  rw [← toZ_val a, ← toZ_zero] at h
  rw [← toZ_val a, ← toZ_inv hp h3, ← toZ_mul, ← toZ_one]
  refine toZ_eq.mpr ?_
  rw [(Nth.powI_inv hp _).2 (fun z => h (toZ_eq.mpr (by rw [z]; simp)))]
  exact (Int.emod_eq_of_lt (by decide) (by omega)).symm
theorem zinv_u (hp : Nth.Pr p) (h3 : 3 < p) {a b : _root_.Fin p} (h : a ≠ 0) (e : a * b = 1) : zinv a = b := by
  have := zinv_mul hp h3 h
  calc zinv a = zinv a * (a * b) := by rw [e, Semiring.mul_one]
    _ = (a * zinv a) * b := by rw [← Semiring.mul_assoc, CommSemiring.mul_comm (zinv a)]
    _ = b := by rw [this, Semiring.one_mul]
theorem z01 (h3 : 3 < p) : (0 : _root_.Fin p) ≠ 1 := by
  rw [← toZ_zero, ← toZ_one]
  intro h
  have := toZ_eq.mp h
  rw [Int.emod_eq_of_lt (by decide) (by omega), Int.emod_eq_of_lt (by decide) (by omega)] at this
  cases this
theorem zinv_ne (hp : Nth.Pr p) (h3 : 3 < p) {a : _root_.Fin p} (h : a ≠ 0) : zinv a ≠ 0 := by
  intro z
  have := zinv_mul hp h3 h
  rw [z, Semiring.mul_zero] at this
  exact z01 h3 this
theorem zinv_inv (hp : Nth.Pr p) (h3 : 3 < p) (a : _root_.Fin p) : zinv (zinv a) = a := by
  by_cases h : a = 0
  · rw [h, zinv_zero hp h3, zinv_zero hp h3]
  · exact zinv_u hp h3 (zinv_ne hp h3 h) (by rw [CommSemiring.mul_comm]; exact zinv_mul hp h3 h)
/-- the field of a prime -/
abbrev zfield (hp : Nth.Pr p) (h3 : 3 < p) : Field (_root_.Fin p) :=
  { (inferInstance : CommRing (_root_.Fin p)) with
    inv := zinv
    div := fun a b => a * zinv b
    zpow := ⟨zpw⟩
    div_eq_mul_inv := fun _ _ => rfl
    zero_ne_one := z01 h3
    inv_zero := zinv_zero hp h3
    mul_inv_cancel := zinv_mul hp h3
    zpow_zero := fun a => Semiring.pow_zero a
    zpow_succ := fun a n => Semiring.pow_succ a n
    zpow_neg := fun a n => by
      have i1 : zinv (1 : _root_.Fin p) = 1 := zinv_u hp h3 (z01 h3).symm (Semiring.mul_one _)
      cases n with
      | ofNat n => cases n with
        | zero => show zpw a 0 = zinv (zpw a 0); show a ^ 0 = zinv (a ^ 0); rw [Semiring.pow_zero, i1]
        | succ n => rfl
      | negSucc n => show a ^ (n + 1) = zinv (zinv (a ^ (n + 1))); rw [zinv_inv hp h3] }
theorem red_of (hp : Nth.Pr p) (h3 : 3 < p) : @Red _ (zfield hp h3) (p : Int) (toZ p) :=
  letI := zfield hp h3
  { p3 := by omega, zero := toZ_zero, one := toZ_one, add := toZ_add, sub := toZ_sub, mul := toZ_mul, neg := toZ_neg, eq := toZ_eq, inv := toZ_inv hp h3 }
end
theorem field_of {p : Nat} (hp : Nth.Pr p) (h3 : 3 < p) : ∃ (F : Type) (i : Lean.Grind.Field F) (φ : Int → F), @Red F i (p : Int) φ :=
  haveI : NeZero p := ⟨by omega⟩
  ⟨_, zfield hp h3, toZ p, red_of hp h3⟩

end
section
open Crv
section
variable {F : Type} [Lean.Grind.Field F] {p c : Int} {φ : Int → F}
namespace Red
variable (H : Red p φ)
include H
theorem md {a : Int} : φ (a % p) = φ a := H.eq.mpr (Int.emod_emod _ _)
theorem fmd {a : Int} : φ (Int.fmod a p) = φ a := by
  rw [Int.fmod_eq_emod_of_nonneg a (by have := H.p3; omega)]; exact H.md
theorem two : φ 2 = 2 := by rw [show (2 : Int) = 1 + 1 from rfl, H.add, H.one]; grind
theorem three : φ 3 = 3 := by rw [show (3 : Int) = 2 + 1 from rfl, H.add, H.two, H.one]; grind
theorem four : φ 4 = 4 := by rw [show (4 : Int) = 2 + 2 from rfl, H.add, H.two]; grind
theorem eight : φ 8 = 8 := by rw [show (8 : Int) = 4 + 4 from rfl, H.add, H.four]; grind
theorem z {a : Int} (h0 : 0 ≤ a) (h1 : a < p) : φ a = 0 ↔ a = 0 := by
  rw [← H.zero, H.eq, Int.emod_eq_of_lt h0 h1]; simp
theorem inj {a b : Int} (h0 : 0 ≤ a) (h1 : a < p) (k0 : 0 ≤ b) (k1 : b < p) : φ a = φ b ↔ a = b := by
  rw [H.eq, Int.emod_eq_of_lt h0 h1, Int.emod_eq_of_lt k0 k1]
theorem n2 : (2 : F) ≠ 0 := by
  rw [← H.two]; intro h
  have := (H.z (a := 2) (by omega) (by have := H.p3; omega)).mp h
  omega
theorem n3 : (3 : F) ≠ 0 := by
  rw [← H.three]; intro h
  have := (H.z (a := 3) (by omega) H.p3).mp h
  omega
theorem rng (a : Int) : 0 ≤ a % p ∧ a % p < p := ⟨Int.emod_nonneg _ (by have := H.p3; omega), Int.emod_lt_of_pos _ (by have := H.p3; omega)⟩
theorem frng (a : Int) : 0 ≤ Int.fmod a p ∧ Int.fmod a p < p := by
  rw [Int.fmod_eq_emod_of_nonneg a (by have := H.p3; omega)]; exact H.rng a
end Red
/-- the points over the field -/
def mp (φ : Int → F) : Pt → Option (F × F)
  | none => none
  | some (x, y) => some (φ x, φ y)
theorem mp_inj (H : Red p φ) {P Q : Pt} (hP : PtOk p P) (hQ : PtOk p Q) : mp φ P = mp φ Q ↔ P = Q := by
  constructor
  · intro h
    rcases P with _ | ⟨x, y⟩ <;> rcases Q with _ | ⟨x', y'⟩ <;> simp only [mp] at h
    · rfl
    · cases h
    · cases h
    · simp only [Option.some.injEq, Prod.mk.injEq] at h
      rw [(H.inj hP.1.1 hP.1.2 hQ.1.1 hQ.1.2).mp h.1, (H.inj hP.2.1 hP.2.2 hQ.2.1 hQ.2.2).mp h.2]
  · rintro rfl; rfl
theorem mp_on (H : Red p φ) {P : Pt} (h : OnC p c P) : On (φ c) (mp φ P) := by
  rcases P with _ | ⟨x, y⟩
  · trivial
  · have := H.eq.mpr h
    rw [H.mul, H.add, H.mul, H.mul] at this
    exact this
theorem ladd_ok' (H : Red p φ) {P Q : Pt} (hP : PtOk p P) (hQ : PtOk p Q) : PtOk p (ladd p P Q) := by
  rcases P with _ | ⟨x1, y1⟩
  · exact hQ
  rcases Q with _ | ⟨x2, y2⟩
  · exact hP
  by_cases e : x1 = x2
  · by_cases k : Int.fmod (y1 + y2) p = 0
    · rw [ladd_n e k]; trivial
    · rw [ladd_d e k]; exact ⟨H.frng _, H.frng _⟩
  · rw [ladd_s e]; exact ⟨H.frng _, H.frng _⟩
theorem mp_ladd (H : Red p φ) {P Q : Pt} (hP : PtOk p P) (hQ : PtOk p Q) : mp φ (ladd p P Q) = padd (mp φ P) (mp φ Q) := by
  rcases P with _ | ⟨x1, y1⟩
  · rfl
  rcases Q with _ | ⟨x2, y2⟩
  · rfl
  simp only [mp]
  have ex : φ x1 = φ x2 ↔ x1 = x2 := H.inj hP.1.1 hP.1.2 hQ.1.1 hQ.1.2
  have ey : φ y1 + φ y2 = 0 ↔ Int.fmod (y1 + y2) p = 0 := by
    rw [← H.add, ← H.z (H.frng (y1 + y2)).1 (H.frng (y1 + y2)).2, H.fmd]
  by_cases e : x1 = x2
  · by_cases k : Int.fmod (y1 + y2) p = 0
    · rw [ladd_n e k, padd_opp (ex.mpr e) (ey.mpr k)]
    · rw [ladd_d e k, padd_some (fun h => k (ey.mp h.2))]
      have hs : slope (φ x1) (φ y1) (φ x2) (φ y2) = φ (Int.fmod (3 * x1 * x1 * powI (2 * y1) (p - 2) p) p) := by
        rw [slope_same (ex.mpr e), H.fmd, H.mul, H.mul, H.mul, H.inv, H.mul, H.three, H.two]
      rw [hs]
      simp only [H.fmd, H.sub, H.mul]
  · rw [ladd_s e, padd_some (fun h => e (ex.mp h.1))]
    have hs : slope (φ x1) (φ y1) (φ x2) (φ y2) = φ (Int.fmod ((y2 - y1) * powI (Int.fmod (x2 - x1) p) (p - 2) p) p) := by
      rw [slope_ne (fun h => e (ex.mp h)), H.fmd, H.mul, H.inv, H.fmd, H.sub, H.sub]
    rw [hs]
    simp only [H.fmd, H.sub, H.mul]
theorem ltimes_ok' (H : Red p φ) : ∀ (k : Nat) {D P : Pt} (n : Int), PtOk p D → PtOk p P → PtOk p (ltimesF p k D P n)
  | 0, _, _, _, hD, _ => hD
  | k + 1, D, P, n, hD, hP => by
    unfold ltimesF
    split
    · refine ltimes_ok' H k _ ?_ (ladd_ok' H hP hP)
      split
      · exact ladd_ok' H hD hP
      · exact hD
    · exact hD
theorem mp_ltimes (H : Red p φ) : ∀ (k : Nat) {D P : Pt} (n : Int), PtOk p D → PtOk p P → mp φ (ltimesF p k D P n) = timesA k (mp φ D) (mp φ P) n
  | 0, _, _, _, hD, _ => rfl
  | k + 1, D, P, n, hD, hP => by
    unfold ltimesF timesA
    by_cases h : 0 < n
    · rw [if_pos h, if_pos h]
      by_cases q : Int.fmod n 2 = 1
      · rw [if_pos q, if_pos q, mp_ltimes H k _ (ladd_ok' H hD hP) (ladd_ok' H hP hP), mp_ladd H hD hP, mp_ladd H hP hP]
      · rw [if_neg q, if_neg q, mp_ltimes H k _ hD (ladd_ok' H hP hP), mp_ladd H hP hP]
    · rw [if_neg h, if_neg h]
end

end
section
open Crv
section
variable {F : Type} [Lean.Grind.Field F] {p c : Int} {φ : Int → F}
/-- a form of a point -/
def Rep (φ : Int → F) (f : Tri) : Option (F × F) → Prop
  | none => φ f.2.2 = 0
  | some (x, y) => φ f.2.2 ≠ 0 ∧ φ f.1 = x * φ f.2.2 ∧ φ f.2.1 = y * φ f.2.2
def InR (p : Int) (f : Tri) : Prop := (0 ≤ f.1 ∧ f.1 < p) ∧ (0 ≤ f.2.1 ∧ f.2.1 < p) ∧ (0 ≤ f.2.2 ∧ f.2.2 < p)
section
variable {X1 Y1 Z1 X2 Y2 Z2 x1 y1 x2 y2 l : F}
theorem mul_ne {a b : F} (h : a ≠ 0) (k : b ≠ 0) : a * b ≠ 0 := by grind
theorem g_chord (k1 : Z1 ≠ 0) (k2 : Z2 ≠ 0) (a1 : X1 = x1 * Z1) (b1 : Y1 = y1 * Z1) (a2 : X2 = x2 * Z2) (b2 : Y2 = y2 * Z2) (n : x1 ≠ x2) (hl : l * (x2 - x1) = y2 - y1)
    {U V W A Vs VV Vc U1 U2 V1 V2 : F} (eU1 : U1 = Y2 * Z1) (eU2 : U2 = Y1 * Z2) (eV1 : V1 = X2 * Z1) (eV2 : V2 = X1 * Z2) (eU : U = U1 - U2) (eV : V = V1 - V2) (eVs : Vs = V * V) (eVV : VV = Vs * V2) (eVc : Vc = V * Vs)
    (eW : W = Z1 * Z2) (eA : A = U * U * W - Vc - VV * 2) :
    Vc * W ≠ 0 ∧ V * A = (l * l - x1 - x2) * (Vc * W) ∧ U * (VV - A) - Vc * U2 = (l * (x1 - (l * l - x1 - x2)) - y1) * (Vc * W) := by
  have w0 : W ≠ 0 := by rw [eW]; grind
  have v : V = (x2 - x1) * W := by rw [eV, eV1, eV2, eW, a1, a2]; grind
  have u : U = l * V := by rw [eU, eU1, eU2, v, eW, b1, b2]; grind
  have v0 : V ≠ 0 := by rw [v]; clear v u eA eW; grind
  have v2 : V2 = x1 * W := by rw [eV2, eW, a1]; grind
  have u2 : U2 = y1 * W := by rw [eU2, eW, b1]; grind
  clear eU1 eU2 eV1 eV2 eU eV a1 a2 b1 b2 eW hl
  have ea : A = V * V * W * (l * l - x1 - x2) := by
    rw [eA, eVV, eVc, eVs, u, v2]
    have : V * V * V = V * V * ((x2 - x1) * W) := by rw [← v]
    clear eA eVV eVc eVs u v
    grind
  refine ⟨?_, ?_, ?_⟩
  · rw [eVc, eVs]; clear ea eA eVV eVc eVs u v u2 v2; grind
  · rw [ea, eVc, eVs]; clear ea eA eVV eVc eVs u v u2 v2; grind
  · rw [ea, eVV, eVc, eVs, u, u2, v2]; clear ea eA eVV eVc eVs u v u2 v2; grind
theorem g_dbl (k1 : Z1 ≠ 0) (a1 : X1 = x1 * Z1) (b1 : Y1 = y1 * Z1) (n : y1 ≠ 0) (t : (2 : F) ≠ 0) (hl : l * (2 * y1) = 3 * x1 * x1)
    {W S B Hh S2 : F} (eW : W = X1 * 3 * X1) (eS : S = Y1 * Z1) (eB : B = X1 * Y1 * S) (eH : Hh = W * W - B * 8) (e2 : S2 = S * S) :
    S * 8 * S2 ≠ 0 ∧ Hh * 2 * S = (l * l - x1 - x1) * (S * 8 * S2) ∧ W * (B * 4 - Hh) - Y1 * 8 * Y1 * S2 = (l * (x1 - (l * l - x1 - x1)) - y1) * (S * 8 * S2) := by
  have s : S = y1 * Z1 * Z1 := by rw [eS, b1]
  have s0 : S ≠ 0 := by rw [s]; clear eW eS eB eH e2 hl s; grind
  have w : W = 2 * l * S := by rw [eW, s, a1]; clear eW eS eB eH e2 s; grind
  have b : B = x1 * S * S := by rw [eB, a1, b1, eS, b1]; clear eW eS eB eH e2 s; grind
  have yy : Y1 * Y1 = y1 * S := by rw [s, b1]; clear eW eS eB eH e2 s; grind
  clear eW eS eB s hl
  refine ⟨?_, ?_, ?_⟩
  · rw [e2]; clear eH e2 w b yy a1 b1
    have e8 : S * 8 * (S * S) = 2 * 2 * 2 * (S * S * S) := by clear k1 n t s0; grind
    rw [e8]; exact mul_ne (mul_ne (mul_ne t t) t) (mul_ne (mul_ne s0 s0) s0)
  · rw [e2, eH, w, b]; clear eH e2 w b yy; grind
  · rw [e2, eH, w, b]
    have : Y1 * 8 * Y1 = 8 * (y1 * S) := by rw [← yy]; grind
    rw [this]; clear eH e2 w b yy this; grind
end
theorem rep_rng {f : Tri} (H : Red p φ) (h : InR p f) : φ f.2.2 = 0 ↔ f.2.2 = 0 := H.z h.2.2.1 h.2.2.2
theorem inR_mk (H : Red p φ) (a b c : Int) : InR p (a % p, b % p, c % p) := ⟨H.rng _, H.rng _, H.rng _⟩
theorem inR_110 (H : Red p φ) : InR p (1, 1, 0) := by have := H.p3; exact ⟨⟨by decide, by show 1 < p; omega⟩, ⟨by decide, by show 1 < p; omega⟩, ⟨by decide, by show 0 < p; omega⟩⟩
theorem inR_dbl (H : Red p φ) (f : Tri) : InR p (dblI p f) := ⟨H.rng _, H.rng _, H.rng _⟩
theorem inR_add (H : Red p φ) {f g : Tri} (hf : InR p f) (hg : InR p g) : InR p (addI p f g) := by
  unfold addI
  split
  · exact hf
  split
  · exact hg
  split
  · split
    · exact inR_dbl H f
    · exact inR_110 H
  · exact ⟨H.rng _, H.rng _, H.rng _⟩
theorem inR_neg (H : Red p φ) {f : Tri} (hf : InR p f) : InR p (negI p f) := ⟨hf.1, H.rng _, hf.2.2⟩
theorem inR_mul (H : Red p φ) : ∀ (k : Nat) {f : Tri} (n : Int), InR p f → InR p (mulI p k f n)
  | 0, _, _, _ => inR_110 H
  | k + 1, f, n, h => by
    unfold mulI
    split
    · exact inR_110 H
    split
    · exact h
    split
    · exact inR_mul H k _ (inR_dbl H f)
    · exact inR_add H (inR_mul H k _ (inR_dbl H f)) h
theorem rep_dbl (H : Red p φ) {f : Tri} {P : Option (F × F)} (h : Rep φ f P) : Rep φ (dblI p f) (padd P P) := by
  obtain ⟨X, Y, Z⟩ := f
  rcases P with _ | ⟨x, y⟩
  · have h : φ Z = 0 := h
    show φ (Y * Z % p * 8 % p * _ % p) = 0
    simp only [H.md, H.mul, h]
    grind
  · obtain ⟨h1, h2, h3⟩ := h
    by_cases q : y = 0
    · rw [padd_opp rfl (by rw [q]; grind)]
      show φ (Y * Z % p * 8 % p * _ % p) = 0
      simp only at h2 h3
      simp only [H.md, H.mul, h3, q]
      grind
    · rw [padd_some (fun z => q (by have := H.n2; grind))]
      have hl : slope x y x y * (2 * y) = 3 * x * x := by rw [slope_same rfl]; exact inv_mul' (by have := H.n2; grind)
      have k := g_dbl h1 h2 h3 q H.n2 hl rfl rfl rfl rfl rfl
      simp only at h1
      refine ⟨?_, ?_, ?_⟩
      · simp only [dblI, H.md, H.mul, H.sub, H.three, H.four, H.eight, H.two]; exact k.1
      · simp only [dblI, H.md, H.mul, H.sub, H.three, H.four, H.eight, H.two]; exact k.2.1
      · simp only [dblI, H.md, H.mul, H.sub, H.three, H.four, H.eight, H.two]; exact k.2.2
theorem rep_add (H : Red p φ) {f g : Tri} {P Q : Option (F × F)} (rf : InR p f) (rg : InR p g) (h : Rep φ f P) (k : Rep φ g Q) (oP : On (φ c) P) (oQ : On (φ c) Q) : Rep φ (addI p f g) (padd P Q) := by
  obtain ⟨X1, Y1, Z1⟩ := f
  obtain ⟨X2, Y2, Z2⟩ := g
  have z1 := rep_rng H rf
  have z2 := rep_rng H rg
  simp only at z1 z2
  rcases Q with _ | ⟨x2, y2⟩
  · have k : φ Z2 = 0 := k
    rw [addI_r1 (z2.mp k), padd_none]; exact h
  rcases P with _ | ⟨x1, y1⟩
  · have h : φ Z1 = 0 := h
    rw [addI_r2 (fun q => k.1 (z2.mpr q)) (z1.mp h)]; exact k
  have n1 : Z1 ≠ 0 := fun q => h.1 (z1.mpr q)
  have n2 : Z2 ≠ 0 := fun q => k.1 (z2.mpr q)
  obtain ⟨h1, h2, h3⟩ := h
  obtain ⟨k1, k2, k3⟩ := k
  simp only at h1 h2 h3 k1 k2 k3
  have ex : X2 * Z1 % p = X1 * Z2 % p ↔ x1 = x2 := by
    rw [← H.eq, H.mul, H.mul, h2, k2]; clear h3 k3 oP oQ z1 z2; grind
  have ey : Y2 * Z1 % p = Y1 * Z2 % p ↔ y1 = y2 := by
    rw [← H.eq, H.mul, H.mul, h3, k3]; clear h2 k2 oP oQ z1 z2; grind
  by_cases e : x1 = x2
  · by_cases d : y1 = y2
    · rw [addI_dbl n2 n1 (ex.mpr e) (ey.mpr d)]
      subst e; subst d
      exact rep_dbl H (P := some (x1, y1)) ⟨h1, h2, h3⟩
    · rw [addI_inf n2 n1 (ex.mpr e) (fun q => d (ey.mp q))]
      have : y1 + y2 = 0 := by simp only [On] at oP oQ; clear h2 h3 k2 k3 z1 z2 ex ey; grind
      rw [padd_opp e this]
      exact H.zero
  · rw [addI_gen n2 n1 (fun q => e (ex.mp q)), padd_some (fun q => e q.1)]
    have hl : slope x1 y1 x2 y2 * (x2 - x1) = y2 - y1 := by rw [slope_ne e]; exact inv_mul' (by clear h2 h3 k2 k3 z1 z2 ex ey oP oQ; grind)
    have k := g_chord h1 k1 h2 h3 k2 k3 e hl rfl rfl rfl rfl rfl rfl rfl rfl rfl rfl rfl
    refine ⟨?_, ?_, ?_⟩
    · simp only [addG, H.md, H.mul, H.sub, H.two]; exact k.1
    · simp only [addG, H.md, H.mul, H.sub, H.two]; exact k.2.1
    · simp only [addG, H.md, H.mul, H.sub, H.two]; exact k.2.2
theorem rep_neg (H : Red p φ) {f : Tri} {P : Option (F × F)} (h : Rep φ f P) : Rep φ (negI p f) (pneg P) := by
  obtain ⟨X, Y, Z⟩ := f
  rcases P with _ | ⟨x, y⟩
  · exact h
  · obtain ⟨h1, h2, h3⟩ := h
    refine ⟨h1, h2, ?_⟩
    simp only [negI, H.md, H.neg] at *
    rw [h3]; grind
theorem rep_mul (H : Red p φ) : ∀ (k : Nat) {f : Tri} {P : Option (F × F)} (n : Int), InR p f → Rep φ f P → On (φ c) P → Rep φ (mulI p k f n) (mulA k P n)
  | 0, _, _, _, _, _, _ => H.zero
  | k + 1, f, P, n, r, h, o => by
    unfold mulI mulA
    by_cases z : n = 0
    · rw [if_pos z, if_pos z]; exact H.zero
    rw [if_neg z, if_neg z]
    by_cases z1 : n = 1
    · rw [if_pos z1, if_pos z1]; exact h
    rw [if_neg z1, if_neg z1]
    have o2 := on_padd H.n2 o o
    have ih := rep_mul H k (Int.fdiv n 2) (inR_dbl H f) (rep_dbl H h) o2
    by_cases z2 : Int.fmod n 2 = 0
    · rw [if_pos z2, if_pos z2]; exact ih
    · rw [if_neg z2, if_neg z2]; exact rep_add H (inR_mul H k _ (inR_dbl H f)) r ih h (on_mulA H.n2 k _ o2) o
/-- what a form reads as -/
theorem read_ok (H : Red p φ) (f : Tri) : PtOk p (lread p f) := by
  unfold lread
  split
  · trivial
  · exact ⟨H.frng _, H.frng _⟩
theorem rep_read (H : Red p φ) {f : Tri} (r : InR p f) : Rep φ f (mp φ (lread p f)) := by
  have z := rep_rng H r
  unfold lread
  split
  · rename_i e; exact z.mpr e
  · rename_i e
    have n : φ f.2.2 ≠ 0 := fun q => e (z.mp q)
    refine ⟨n, ?_, ?_⟩
    · rw [H.fmd, H.mul, H.inv]; exact (inv_mul' n).symm
    · rw [H.fmd, H.mul, H.inv]; exact (inv_mul' n).symm
theorem rep_u {f : Tri} {P Q : Option (F × F)} (h : Rep φ f P) (k : Rep φ f Q) : P = Q := by
  rcases P with _ | ⟨x, y⟩ <;> rcases Q with _ | ⟨x', y'⟩
  · rfl
  · exact absurd h k.1
  · exact absurd k h.1
  · obtain ⟨h1, h2, h3⟩ := h
    obtain ⟨k1, k2, k3⟩ := k
    have e1 : x = x' := by clear h3 k3; grind
    have e2 : y = y' := by clear h2 k2; grind
    rw [e1, e2]
theorem read_of (H : Red p φ) {f : Tri} {P : Pt} (r : InR p f) (o : PtOk p P) (h : Rep φ f (mp φ P)) : lread p f = P :=
  (mp_inj H (read_ok H f) o).mp (rep_u (rep_read H r) h)
theorem inR_form (H : Red p φ) (P : Pt) (s : Int) : InR p (lform p P s) := by
  rcases P with _ | ⟨x, y⟩ <;> exact ⟨H.rng _, H.rng _, H.rng _⟩
theorem rep_form (H : Red p φ) (P : Pt) {s : Int} (h : s % p ≠ 0) : Rep φ (lform p P s) (mp φ P) := by
  rcases P with _ | ⟨x, y⟩
  · show φ (0 % p) = 0
    rw [H.md, H.zero]
  · have : φ s ≠ 0 := by
      rw [← H.zero]; intro q
      have := H.eq.mp q
      rw [Int.zero_emod] at this
      exact h this
    refine ⟨?_, ?_, ?_⟩ <;> simp only [lform, H.md, H.mul]
    · exact this
theorem form_ne (H : Red p φ) (P : Pt) {s : Int} (h : s % p ≠ 0) : lform p P s ≠ (0, 0, 0) := by
  rcases P with _ | ⟨x, y⟩
  · intro e
    simp only [lform, Prod.mk.injEq] at e
    exact h e.1
  · intro e
    simp only [lform, Prod.mk.injEq] at e
    exact h e.2.2
theorem rep_eq (H : Red p φ) {f g : Tri} {P Q : Option (F × F)} (rf : InR p f) (rg : InR p g) (h : Rep φ f P) (k : Rep φ g Q) (nf : f ≠ (0, 0, 0)) (ng : g ≠ (0, 0, 0)) : eqI p f g ↔ P = Q := by
  have hx : f.1 * g.2.2 % p = g.1 * f.2.2 % p ↔ φ f.1 * φ g.2.2 = φ g.1 * φ f.2.2 := by rw [← H.eq, H.mul, H.mul]
  have hy : f.2.1 * g.2.2 % p = g.2.1 * f.2.2 % p ↔ φ f.2.1 * φ g.2.2 = φ g.2.1 * φ f.2.2 := by rw [← H.eq, H.mul, H.mul]
  unfold eqI
  rw [hx, hy]
  have key : ∀ {f : Tri}, InR p f → f ≠ (0, 0, 0) → φ f.2.2 = 0 → ¬ (φ f.1 = 0 ∧ φ f.2.1 = 0) := by
    rintro ⟨X, Y, Z⟩ r n z ⟨a, b⟩
    have a := (H.z r.1.1 r.1.2).mp a
    have b := (H.z r.2.1.1 r.2.1.2).mp b
    have z := (rep_rng H r).mp z
    simp only at a b z
    exact n (by rw [a, b, z])
  rcases P with _ | ⟨x, y⟩ <;> rcases Q with _ | ⟨x', y'⟩
  · have h : φ f.2.2 = 0 := h
    have k : φ g.2.2 = 0 := k
    rw [h, k]
    constructor
    · intro _; rfl
    · intro _; constructor <;> grind
  · have h : φ f.2.2 = 0 := h
    have k1 := k.1
    have := key rf nf h
    rw [h]
    constructor
    · rintro ⟨a, b⟩; exact absurd ⟨by grind, by grind⟩ this
    · intro q; cases q
  · have k : φ g.2.2 = 0 := k
    have h1 := h.1
    have := key rg ng k
    rw [k]
    constructor
    · rintro ⟨a, b⟩; exact absurd ⟨by grind, by grind⟩ this
    · intro q; cases q
  · obtain ⟨h1, h2, h3⟩ := h
    obtain ⟨k1, k2, k3⟩ := k
    rw [h2, h3, k2, k3]
    constructor
    · rintro ⟨a, b⟩
      have e1 : x = x' := by clear h3 k3 b h2 k2; grind
      have e2 : y = y' := by clear h2 k2 a h3 k3; grind
      rw [e1, e2]
    · intro e
      cases e
      constructor <;> grind
end

end
section
open Crv
theorem onI_iff {F : Type} [Lean.Grind.Field F] {p c : Int} {φ : Int → F} (H : Red p φ) {f : Tri} : onI p f c ↔ (f.2.2 = 0 ∨ φ f.2.1 * φ f.2.1 * φ f.2.2 - φ f.1 * φ f.1 * φ f.1 = φ c * (φ f.2.2 * φ f.2.2 * φ f.2.2)) := by
  unfold onI
  have : ∀ a b : Int, (a % p = b % p) ↔ φ a = φ b := fun a b => H.eq.symm
  rw [this]
  simp only [H.md, H.mul, H.sub]
theorem rep_on {F : Type} [Lean.Grind.Field F] {p c : Int} {φ : Int → F} (H : Red p φ) {f : Tri} {P : Option (F × F)} (r : InR p f) (h : Rep φ f P) (o : On (φ c) P) : onI p f c := by
  rw [onI_iff H]
  rcases P with _ | ⟨x, y⟩
  · exact Or.inl ((rep_rng H r).mp h)
  · right
    obtain ⟨h1, h2, h3⟩ := h
    simp only [On] at o
    rw [h2, h3]; grind
theorem mp_opp {F : Type} [Lean.Grind.Field F] {p c : Int} {φ : Int → F} (H : Red p φ) (P : Pt) : mp φ (oppI p P) = pneg (mp φ P) := by
  rcases P with _ | ⟨x, y⟩
  · rfl
  · simp only [oppI, Option.map, mp, pneg, H.fmd, H.neg]
theorem opp_ok {F : Type} [Lean.Grind.Field F] {p c : Int} {φ : Int → F} (H : Red p φ) {P : Pt} (h : PtOk p P) : PtOk p (oppI p P) := by
  rcases P with _ | ⟨x, y⟩
  · trivial
  · exact ⟨h.1, H.frng _⟩
theorem opp_on {F : Type} [Lean.Grind.Field F] {p c : Int} {φ : Int → F} (H : Red p φ) {P : Pt} (h : OnC p c P) : OnC p c (oppI p P) := by
  rcases P with _ | ⟨x, y⟩
  · trivial
  · refine H.eq.mp ?_
    have := H.eq.mpr h
    simp only [H.mul, H.fmd, H.neg, H.add] at *
    grind
theorem on_of_mp {F : Type} [Lean.Grind.Field F] {p c : Int} {φ : Int → F} (H : Red p φ) {P : Pt} (h : On (φ c) (mp φ P)) : OnC p c P := by
  rcases P with _ | ⟨x, y⟩
  · trivial
  · refine H.eq.mp ?_
    simp only [mp, On] at h
    simp only [H.mul, H.add]
    exact h
theorem ladd_on {F : Type} [Lean.Grind.Field F] {p c : Int} {φ : Int → F} (H : Red p φ) {P Q : Pt} (hP : PtOk p P) (hQ : PtOk p Q) (oP : OnC p c P) (oQ : OnC p c Q) : OnC p c (ladd p P Q) := by
  refine on_of_mp H ?_
  rw [mp_ladd H hP hQ]
  exact on_padd H.n2 (mp_on H oP) (mp_on H oQ)
theorem right_of' {F : Type} [Lean.Grind.Field F] {p c : Int} {φ : Int → F} (H : Red p φ) {P R : Pt} {s1 s2 n : Int} {q : Tri} (c0 : 0 < c) (c1 : c < p) (okP : PtOk p P) (okR : PtOk p R) (oP : OnC p c P) (oR : OnC p c R)
    (h1 : s1 % p ≠ 0) (h2 : s2 % p ≠ 0) (rq : InR p q) (nq : q ≠ (0, 0, 0)) (n0 : 0 ≤ n) (n1 : n < 2 ^ 20) : Right p c P R (lform p P s1) (lform p R s2) q n := by
  have hc : φ c ≠ 0 := by intro z; have := (H.z (by omega) c1).mp z; omega
  have kP := mp_on H oP
  have kR := mp_on H oR
  have rf := inR_form H P s1
  have rg := inR_form H R s2
  have pf := rep_form H P h1
  have pg := rep_form H R h2
  have nf := form_ne H P h1
  have ng := form_ne H R h2
  have pa := rep_add H rf rg pf pg kP kR
  refine ⟨okP, okR, rf.2.2.1, ?rd0, ?rd1, ?rd2, ?rd3, ?bad, ?inf, ?onq, ?ona, ?efg, ?efq, ?eqq, ?gcd, ?quo⟩
  case rd0 =>
    refine read_of H (inR_add H rf rg) (ladd_ok' H okP okR) ?_
    rw [mp_ladd H okP okR]; exact pa
  case rd1 =>
    refine read_of H (inR_dbl H _) (ladd_ok' H okP okP) ?_
    rw [mp_ladd H okP okP]; exact rep_dbl H pf
  case rd2 =>
    refine read_of H (inR_neg H rf) (opp_ok (c := c) H okP) ?_
    rw [mp_opp (c := c) H P]; exact rep_neg H pf
  case rd3 =>
    refine read_of H (inR_mul H _ _ rg) (ltimes_ok' H _ _ trivial okR) ?_
    rw [mp_ltimes H 20 n (show PtOk p none from trivial) okR, timesA_eq H.n2 H.n3 hc 20 n (show On (φ c) (mp φ none) from trivial) kR n0 n1]
    exact rep_mul H 20 n rg pg kR
  case bad =>
    intro nP nR e
    rcases P with _ | ⟨x1, y1⟩
    · exact absurd rfl nP
    rcases R with _ | ⟨x2, y2⟩
    · exact absurd rfl nR
    have e' : padd (mp φ (some (x1, y1))) (mp φ (some (x2, y2))) = none := by rw [← mp_ladd H okP okR, e]; rfl
    have hz : ∀ s : Int, s % p ≠ 0 → s % p % p ≠ 0 := fun s h => by rw [Int.emod_emod]; exact h
    have d : φ x1 = φ x2 ∧ φ y1 + φ y2 = 0 := by
      apply Classical.byContradiction
      intro z
      simp only [mp] at e'
      rw [padd_some z] at e'
      cases e'
    have hs1 : φ s1 ≠ 0 := by rw [← H.zero]; intro q; have := H.eq.mp q; rw [Int.zero_emod] at this; exact h1 this
    have hs2 : φ s2 ≠ 0 := by rw [← H.zero]; intro q; have := H.eq.mp q; rw [Int.zero_emod] at this; exact h2 this
    have hv : x2 * s2 % p * (s1 % p) % p = x1 * s1 % p * (s2 % p) % p := by
      refine H.eq.mp ?_
      simp only [H.md, H.mul]
      rw [← d.1]; grind
    show addI p (x1 * s1 % p, y1 * s1 % p, s1 % p) (x2 * s2 % p, y2 * s2 % p, s2 % p) ≠ _
    by_cases hu : y2 * s2 % p * (s1 % p) % p = y1 * s1 % p * (s2 % p) % p
    · rw [addI_dbl h2 h1 hv hu]
      have u := H.eq.mpr hu
      simp only [H.md, H.mul] at u
      have ye : φ y1 = 0 := by
        have := H.n2
        obtain ⟨d1, d2⟩ := d
        clear hv hu e e' kP kR pf pg pa
        grind
      have xe : φ x1 ≠ 0 := by
        intro z
        simp only [mp, On] at kP
        rw [ye, z] at kP
        exact hc (by clear u; grind)
      intro q
      have q2 : (dblI p (x1 * s1 % p, y1 * s1 % p, s1 % p)).2.1 = 0 := by rw [q]
      have q3 : φ (dblI p (x1 * s1 % p, y1 * s1 % p, s1 % p)).2.1 = 0 := by rw [q2]; exact H.zero
      simp only [dblI, H.md, H.mul, H.sub, H.three, H.four, H.eight, H.two, ye] at q3
      have q4 : φ x1 * φ s1 * 3 * (φ x1 * φ s1) * (φ x1 * φ s1 * 3 * (φ x1 * φ s1) * (φ x1 * φ s1 * 3 * (φ x1 * φ s1))) = 0 := by clear u kP kR pf pg pa; grind
      have w : φ x1 * φ s1 * 3 * (φ x1 * φ s1) ≠ 0 := mul_ne (mul_ne (mul_ne xe hs1) H.n3) (mul_ne xe hs1)
      exact mul_ne w (mul_ne w w) q4
    · rw [addI_inf h2 h1 hv hu]
      intro q
      simp only [Prod.mk.injEq] at q
      omega
  case inf =>
    have := rep_rng H rf
    rw [← this]
    rcases P with _ | ⟨x, y⟩
    · exact ⟨fun _ => rfl, fun _ => pf⟩
    · exact ⟨fun z => absurd z pf.1, fun z => by cases z⟩
  case onq =>
    rw [onI_iff H]
    have e : Int.fmod (q.2.1 * q.2.1 * q.2.2 - q.1 * q.1 * q.1 - c * q.2.2 * q.2.2 * q.2.2) p = 0 ↔ φ q.2.1 * φ q.2.1 * φ q.2.2 - φ q.1 * φ q.1 * φ q.1 - φ c * φ q.2.2 * φ q.2.2 * φ q.2.2 = 0 := by
      rw [← H.z (H.frng _).1 (H.frng _).2, H.fmd]
      simp only [H.mul, H.sub]
    rw [e]
    constructor
    · rintro (h | h)
      · exact Or.inl h
      · right; grind
    · rintro (h | h)
      · exact Or.inl h
      · right; grind
  case ona => exact rep_on H (inR_add H rf rg) pa (on_padd H.n2 kP kR)
  case efg => rw [rep_eq H rf rg pf pg nf ng]; exact mp_inj H okP okR
  case efq =>
    rw [rep_eq H rf rq (rep_read H rf) (rep_read H rq) nf nq]
    exact mp_inj H (read_ok H _) (read_ok H _)
  case eqq => exact ⟨rfl, rfl⟩
  case gcd =>
    intro nP
    rcases P with _ | ⟨x, y⟩
    · exact absurd rfl nP
    have hz := pf.1
    have k : φ ((lform p (some (x, y)) s1).2.2 * powI (lform p (some (x, y)) s1).2.2 (p - 2) p) = φ 1 := by
      rw [H.mul, H.inv, H.one, Lean.Grind.CommSemiring.mul_comm, Lean.Grind.Field.inv_mul_cancel hz]
    have k := H.eq.mp k
    rw [Int.emod_eq_of_lt (a := 1) (by decide) (by have := H.p3; omega)] at k
    generalize (lform p (some (x, y)) s1).2.2 = z at k ⊢
    generalize powI z (p - 2) p = w at k
    have d1 : (Int.gcd z p : Int) ∣ z := Int.gcd_dvd_left ..
    have d2 : (Int.gcd z p : Int) ∣ p := Int.gcd_dvd_right ..
    have d3 : (Int.gcd z p : Int) ∣ 1 := by
      rw [← k, Int.emod_def]
      exact Int.dvd_sub (Int.dvd_trans d1 (Int.dvd_mul_right _ _)) (Int.dvd_trans d2 (Int.dvd_mul_right _ _))
    have := Int.natCast_dvd_natCast.mp (show ((Int.gcd z p : Nat) : Int) ∣ ((1 : Nat) : Int) from d3)
    exact Nat.dvd_one.mp this
  case quo =>
    rintro x y rfl r r0 r1 e
    have hz := pf.1
    have e' := H.eq.mpr (show ((lform p (some (x, y)) s1).2.2 * r) % p = 1 % p by rw [e, Int.emod_eq_of_lt (a := 1) (by decide) (by have := H.p3; omega)])
    rw [H.mul, H.one] at e'
    constructor
    · refine (H.inj (H.rng _).1 (H.rng _).2 okP.1.1 okP.1.2).mp ?_
      rw [H.md, H.mul, pf.2.1]; grind
    · refine (H.inj (H.rng _).1 (H.rng _).2 okP.2.1 okP.2.2).mp ?_
      rw [H.md, H.mul, pf.2.2]; grind

end
section
open Crv
/-- a prime above three that the walk can bear -/
def Ok (p : Int) : Prop := Md p ∧ ∃ n : Nat, p = n ∧ Nth.Pr n ∧ 3 < n
section
variable {p c : Int} {P R : Pt} {s1 s2 n s : Int} {q : Tri}
theorem Ok.field (h : Ok p) : ∃ (F : Type) (i : Lean.Grind.Field F) (φ : Int → F), @Red F i p φ := by
  obtain ⟨_, n, rfl, h, h3⟩ := h
  exact field_of h h3
theorem Ok.right (h : Ok p) (c0 : 0 < c) (c1 : c < p) (okP : PtOk p P) (okR : PtOk p R) (oP : OnC p c P) (oR : OnC p c R)
    (h1 : s1 % p ≠ 0) (h2 : s2 % p ≠ 0) (rq : InR p q) (nq : q ≠ (0, 0, 0)) (n0 : 0 ≤ n) (n1 : n < 2 ^ 20) : Right p c P R (lform p P s1) (lform p R s2) q n := by
  obtain ⟨F, i, φ, H⟩ := h.field
  exact right_of' H c0 c1 okP okR oP oR h1 h2 rq nq n0 n1
theorem Ok.ladd_on (h : Ok p) (hP : PtOk p P) (hQ : PtOk p R) (oP : OnC p c P) (oQ : OnC p c R) : OnC p c (ladd p P R) := by
  obtain ⟨F, i, φ, H⟩ := h.field
  exact EcLaw.ladd_on H hP hQ oP oQ
theorem Ok.opp_ok (h : Ok p) (hP : PtOk p P) : PtOk p (oppI p P) := by
  obtain ⟨F, i, φ, H⟩ := h.field
  exact EcLaw.opp_ok (c := 0) H hP
theorem Ok.opp_on (h : Ok p) (hP : OnC p c P) : OnC p c (oppI p P) := by
  obtain ⟨F, i, φ, H⟩ := h.field
  exact EcLaw.opp_on H hP
theorem Ok.form_in (h : Ok p) : InR p (lform p P s) := by
  obtain ⟨F, i, φ, H⟩ := h.field
  exact inR_form H P s
theorem Ok.form_ne (h : Ok p) (k : s % p ≠ 0) : lform p P s ≠ (0, 0, 0) := by
  obtain ⟨F, i, φ, H⟩ := h.field
  exact EcLaw.form_ne H P k
theorem FormIn.inR {led : Led} {v : Value} {f : Tri} (h : FormIn led v p f) : InR p f := by
  obtain ⟨t, a, b, c, e, m, A, B, C⟩ := h
  exact ⟨A.1, B.1, C.1⟩
end
theorem ok_of {n : Nat} (h : Nth.Pr n) (h3 : 3 < n) (hs : n < 2 ^ 512) : Ok (n : Int) :=
  ⟨⟨by omega, by rw [Int.natAbs_natCast]; exact hs⟩, n, rfl, h, h3⟩
theorem ok0 : Ok 7 := ok_of Nth.pr_7 (by decide) (by decide +kernel)
theorem ok1 : Ok 11 := ok_of Nth.pr_11 (by decide) (by decide +kernel)
theorem ok2 : Ok 19 := ok_of Nth.pr_19 (by decide) (by decide +kernel)
theorem ok3 : Ok 23 := ok_of Nth.pr_23 (by decide) (by decide +kernel)
theorem ok4 : Ok 31 := ok_of Nth.pr_31 (by decide) (by decide +kernel)
theorem ok5 : Ok 43 := ok_of Nth.pr_43 (by decide) (by decide +kernel)
theorem ok6 : Ok 251 := ok_of Nth.pr_251 (by decide) (by decide +kernel)
theorem ok7 : Ok 1019 := ok_of Nth.pr_1019 (by decide) (by decide +kernel)
theorem ok8 : Ok 65519 := ok_of Nth.pr_65519 (by decide) (by decide +kernel)
theorem ok9 : Ok 65423 := ok_of Nth.pr_65423 (by decide) (by decide +kernel)
theorem ok10 : Ok 4002409555221667393417789825735904156556882819939007885332058136124031650490837864442687629129015664037894272559787 := ok_of Nth.pr_P381 (by decide +kernel) (by decide +kernel)
theorem ok11 : Ok 21888242871839275222246405745257275088696311157297823662689037894645226208583 := ok_of Nth.pr_P254 (by decide +kernel) (by decide +kernel)

end
theorem off_I {I C D : Addr} {led : Led} (h : LCg.Off3 I C D led) : ∀ q ∈ led, q.1 ≠ I := fun q hq => (h.mem q hq).1
theorem off_C {I C D : Addr} {led : Led} (h : LCg.Off3 I C D led) : ∀ q ∈ led, q.1 ≠ C := fun q hq => (h.mem q hq).2.1
theorem off_D {I C D : Addr} {led : Led} (h : LCg.Off3 I C D led) : ∀ q ∈ led, q.1 ≠ D := fun q hq => (h.mem q hq).2.2
/-- a ledger after a store into a cell: what is no cell stays -/
def Kept (a b : Led) : Prop := ∀ q ∈ a, (∀ v, q.2.data ≠ .cell v) → q ∈ b
theorem FQin.kept {a b : Led} {v : Value} {p n : Int} (h : FQin a v p n) (k : Kept a b) : FQin b v p n := by
  obtain ⟨h0, x, dx, h1, h2, t1, t2, u1, u2, e, m, m2⟩ := h
  exact ⟨h0, x, dx, h1, h2, t1, t2, u1, u2, e, k _ m (fun _ h => by cases h), k _ m2 (fun _ h => by cases h)⟩
theorem FormIn.kept {a b : Led} {v : Value} {p : Int} {f : Tri} (h : FormIn a v p f) (k : Kept a b) : FormIn b v p f := by
  obtain ⟨t, x, y, z, e, m, A, B, C⟩ := h
  exact ⟨t, x, y, z, e, k _ m (fun _ h => by cases h), A.kept k, B.kept k, C.kept k⟩
theorem DivIn.kept {a b : Led} {v : Value} {p x y : Int} (h : DivIn a v p x y) (k : Kept a b) : DivIn b v p x y := by
  obtain ⟨r, h1, h2, h3, h4⟩ := h
  exact ⟨r, h1, h2, h3, h4.kept k⟩
theorem PairIn.kept {a b : Led} {v : Value} {p : Int} {f : Tri} (h : PairIn a v p f) (k : Kept a b) : PairIn b v p f := by
  obtain ⟨t, x, y, e, m, A, B⟩ := h
  exact ⟨t, x, y, e, k _ m (fun _ h => by cases h), A.kept k, B.kept k⟩
theorem PtIn.kept {a b : Led} {v : Value} {P : Pt} (h : PtIn a v P) (k : Kept a b) : PtIn b v P := by
  rcases P with _ | ⟨x, y⟩
  · exact h
  · obtain ⟨t, tx, ty, e, m⟩ := h; exact ⟨t, tx, ty, e, k _ m (fun _ h => by cases h)⟩
section
variable {M : Model} {A : Around} {E : Value → Shared → Prop} {s : Shared} {h₀ : Heap} {L a : Addr} {m : Str → Option Value} {cn : Str} {cs : Scope} {ccd : Value} {cl : List (Str × Addr)}
  {x : Str} {v : Value} {Q : Unit → Shared → Prop} {news base : Led} {c : Addr} {o : Obj} {v₀ : Option Value}
/-- a store into a cell of the ledger -/
theorem storeX_CO (F : Fr h₀ L s.heap m) (N : News h₀ L s.heap news) (hc : cl.lookup x = some c) (hm : (c, o) ∈ news) (hd : o.data = .cell v₀) (hb : ∀ q ∈ base, q ∈ news) (hlt : ∀ q ∈ base, q.1 ≠ c)
    (h : ∀ h' o' led, Fr h₀ L h' m → News h₀ L h' led → (c, o') ∈ led → o'.data = .cell (some v) → (∀ q ∈ base, q ∈ led) → Kept news led → (∀ q ∈ news, q.1 ≠ c → q ∈ led) → Q () { s with heap := h' })
    (hk : cs.kind = .function := by rfl) (hx : (envX cn cs L a ccd cl).kindOf x = some .cell := by rfl) : wpAny M A (storeName (envX cn cs L a ccd cl) x v) Q E s := by
  have N0 : News h₀ L s.heap ((c, o) :: news.filter (fun q => decide (q.1 ≠ c))) := fun q hq => by
    rcases List.mem_cons.mp hq with rfl | hq
    · exact N _ hm
    · exact N q (List.mem_filter.mp hq).1
  have k2 : ∀ q ∈ news, q.1 ≠ c → q ∈ news.filter (fun q => decide (q.1 ≠ c)) := fun q hq hn => List.mem_filter.mpr ⟨hq, decide_eq_true hn⟩
  refine storeX_C F N0 hc (UpdF.head (fun q hq => of_decide_eq_true (List.mem_filter.mp hq).2)) hd (fun h' o' F' N' d' => h h' o' _ F' N' (.head _) d' (fun q hq => .tail _ (k2 q (hb q hq) (hlt q hq))) (fun q hq hn => .tail _ (k2 q hq fun e => ?_)) fun q hq hn => .tail _ (k2 q hq hn)) hk hx
  have h1 := (N _ hm).1
  have h2 := (N q hq).1
  rw [e, h1] at h2
  cases h2
  exact hn _ hd
end
local macro_rules | `(tactic| walk_at "storeName") => `(tactic| (k_here; k_dflt (o_head storeX_CO 2 3 4 5 6 8 7 ?_ 0 1 / [10, 10, 1, 1, 10, 2, 1, by first | exact off_I (by assumption) | exact off_C (by assumption) | exact off_D (by assumption), by tb_start]); intros))
theorem mem_kept {a b : Led} {x : Addr × Obj} (h : x ∈ a) (k : Kept a b) (n : ∀ v, x.2.data ≠ .cell v) : x ∈ b := k x h n
theorem mem_but {a b : Led} {c : Addr} {x : Addr × Obj} (h : x ∈ a) (k : ∀ q ∈ a, q.1 ≠ c → q ∈ b) (n : @Ne Nat x.1 c) : x ∈ b := k x h n
local macro_rules | `(tactic| k_mem) => `(tactic| first
  | with_reducible assumption
  | (o_head mem_of_sub 1 0 / [11, 2])
  | (o_head mem_kept 1 0 2 / [11, 2, by intro _ h9; cases h9])
  | (o_head mem_but 1 0 2 / [11, 2, by dsimp only; omega])
  | fail "k_mem")
local macro_rules | `(tactic| tb_rel) => `(tactic| o_head FormIn _ _ _ _ - FormIn.mono - FormIn.kept)
local macro_rules | `(tactic| tb_rel) => `(tactic| o_head PtIn _ _ _ - PtIn.mono - PtIn.kept)
local macro_rules | `(tactic| tb_rel) => `(tactic| o_head PairIn _ _ _ _ - PairIn.mono - PairIn.kept)
local macro_rules | `(tactic| tb_rel) => `(tactic| o_head FQin _ _ _ _ - FQin.mono - FQin.kept)
section
variable {M : Model} {A : Around} {s : Shared} {Q E : Value → Shared → Prop} {led : Led} {v : Value} {P : Pt}
theorem pt_is (hP : PtIn led v P) (h : Q (.bool (decide (P = none))) s) : wpAny M A (compareOp .Is v .none) Q E s := by
  rcases P with _ | ⟨x, y⟩
  · cases hP; exact is_none_none (by simpa using h)
  · obtain ⟨t, tx, ty, rfl, m⟩ := hP; exact is_ref_none (by simpa using h)
end
section
variable {p c n : Int} {P R : Pt} {f g q : Tri} {led : Led} {v : Value}
theorem norm_gcd (H : Right p c P R f g q n) (h : ¬ P = none) : Int.gcd f.2.2 p = 1 := H.gcd h
theorem norm_pos (H : Right p c P R f g q n) (h : ¬ P = none) : 0 < f.2.2 := by
  have h1 := H.r0
  have h2 : f.2.2 ≠ 0 := fun e => h (H.inf.mp e)
  omega
end
local macro_rules | `(tactic| walk_at "compareOp Is") => `(tactic| (k_here; (fail_if_success (with_reducible show wpAny _ _ (compareOp _ Value.none _) _ _ _)); (fail_if_success (with_reducible show wpAny _ _ (compareOp _ (Value.ref _) _) _ _ _)); k_dflt (with_reducible refine pt_is (by tb_rel) ?_)))
theorem isList2 {h₀ h : Heap} {L l : Addr} {news : List (Addr × Obj)} {a b : Value} {n : Nat} (N : News h₀ L h news) (hm : (l, ({ cls := .type "list", data := .seq #[a, b] n } : Obj)) ∈ news) : h.IsList l #[a, b] :=
  ⟨_, N.get hm, rfl, n, rfl⟩
local macro_rules | `(tactic| walk_at "assign Tuple") => `(tactic| (k_here; (with_reducible show wpAny _ _ (assign (Expr.Tuple _ _ _) _ (Value.ref _)) _ _ _); k_dflt (o_head kun_list 0 1 2 3 4 5 ?_ / [1, 1, by exact isList2 (by k_asm) (by k_mem), 4, 3, 3]; k_whole); intros))
theorem Spec.useN {w : World} {f : Addr} {vs : List Value} {news : Led} {dn un : Nat} {Post : Led → Value → Prop} {mg mb : Str → Option Value}
    {g₀ : Heap} {L : Addr} {m : Str → Option Value} {A : Around} {s : Shared} {Q E : Value → Shared → Prop}
    (N : News g₀ L s.heap news) (F : Fr g₀ L s.heap m) (X : (hd.heap_1 w.params).In g₀) (T : TR mg mb g₀) (hh : A.handled = none)
    (S : Spec w f vs news dn un Post) (hdp : A.depth + dn < recursionLimit) (hun : A.units + un < cLine)
    (h : ∀ v h' tk' led, Fr g₀ L h' m → News g₀ L h' led → (∀ q ∈ news, q ∈ led) → Post led v → Q v { s with heap := h', toks := tk' }) :
    wpAny (MM w) A (call (.ref f) vs) Q E s := S.use F N X T hh hdp hun h
theorem comp_pts {w : World} {A : Around} {h₀ : Heap} {L : Addr} {m : Str → Option Value} {s : Shared} {elt : PySem.Expr} {x : Str} {scope : PySem.Scope} {cl : List (Str × Addr)} {env : Env} {S : Led → Prop} {Fin : List Value → Led → Prop} {base : Led} {its : Array Value} (D9 : Nat → Pt)
    (hS : ∀ l, (∀ q ∈ base, q ∈ l) → S l)
    (H : ∀ i v I oI C oC D oD m₂ h tk (E' : Value → Shared → Prop) news, i < its.size → its[i]? = some v → LCg.NsObj oC m₂ → m₂ x = some v → Fr h₀ L h m → News h₀ L h ((I, oI) :: (C, oC) :: (D, oD) :: news) → LCg.Off3 I C D news → ((@Ne Nat I C) ∧ (@Ne Nat I D) ∧ (@Ne Nat C D)) → (∀ q ∈ base, q ∈ news) →
      wpAny (MM w) A (eval elt (compEnvC scope cl C env)) (TurnEnd (fun y l => PtIn l y (D9 i)) h₀ L m s I oI C oC D oD news) E' { s with heap := h, toks := tk })
    (hF : ∀ ys led, (∀ q ∈ base, q ∈ led) → ys.length = its.size → (∀ i y, ys[i]? = some y → PtIn led y (D9 i)) → Fin ys led) :
    LCg.CompRest PySem.Challenge.rw_lh0030_01.row.prog w A h₀ L m env elt x scope cl s S (fun i v => its[i]? = some v) Fin its.size 0 [] base :=
  comp_rest (R := fun i y l => PtIn l y (D9 i)) (fun _ _ _ _ h k => h.mono k) hS _ H hF
def due4 (A B C D : Pt) : Nat → Pt
  | 0 => A
  | 1 => B
  | 2 => C
  | _ => D
theorem told4 {led : Led} {p : Int} {a1 a2 a3 a4 : Addr} {f1 f2 f3 f4 : Tri} {A B C D : Pt} (h1 : FormIn led (.ref a1) p f1) (h2 : FormIn led (.ref a2) p f2) (h3 : FormIn led (.ref a3) p f3) (h4 : FormIn led (.ref a4) p f4)
    (r1 : lread p f1 = A) (r2 : lread p f2 = B) (r3 : lread p f3 = C) (r4 : lread p f4 = D) {i : Nat} {v : Value} (hv : (#[.ref a1, .ref a2, .ref a3, .ref a4] : Array Value)[i]? = some v) :
    ∃ z f, v = .ref z ∧ FormIn led (.ref z) p f ∧ lread p f = due4 A B C D i := by
  match i, hv with
  | 0, h => cases h; exact ⟨_, _, rfl, h1, r1⟩
  | 1, h => cases h; exact ⟨_, _, rfl, h2, r2⟩
  | 2, h => cases h; exact ⟨_, _, rfl, h3, r3⟩
  | 3, h => cases h; exact ⟨_, _, rfl, h4, r4⟩
  | k + 4, h => exact absurd h (by simp)
theorem four {ys : List Value} (h : ys.length = 4) : ∃ a b c d, ys = [a, b, c, d] := by
  match ys, h with
  | [a, b, c, d], _ => exact ⟨a, b, c, d, rfl⟩
local macro_rules | `(tactic| walk_at "call ref") => `(tactic| o_head (349, Spec.useO _ _ _ _ _ [] (spec_lread _ ())))
theorem reads4 {h₀ h : Heap} {L l : Addr} {led : Led} {a b c d : Value} {A B C D : Pt} {k : Nat} (N : News h₀ L h led) (m : (l, ({ cls := .type "list", data := .seq #[a, b, c, d] k } : Obj)) ∈ led)
    (h1 : PtIn led a A) (h2 : PtIn led b B) (h3 : PtIn led c C) (h4 : PtIn led d D) : ∃ as, Reads h (.ref l) (.list [ptD A, ptD B, ptD C, ptD D]) as :=
  ⟨_, .list (N.get m) rfl rfl (.cons (h1.reads N) (.cons (h2.reads N) (.cons (h3.reads N) (.cons (h4.reads N) .nil))))⟩
theorem shaped4 (A B C D : Pt) : PySem.SeqAt.shaped (.list [ptD A, ptD B, ptD C, ptD D]) = true := by
  rcases A with _ | ⟨x, y⟩ <;> rcases B with _ | ⟨x, y⟩ <;> rcases C with _ | ⟨x, y⟩ <;> rcases D with _ | ⟨x, y⟩ <;> simp [PySem.SeqAt.shaped, ptD, PyData.canLay0, PyData.canLayAll0, PyData.depth, PyData.depthAll]
theorem ptD_self (P : Pt) : (ptD P).eqv (ptD P) = true := by rw [ptD_eqv]; simp
/-- two lists of four points, alike -/
theorem ne_pts4 {w : World} {g₀ : Heap} {L : Addr} {A : Around} {s : Shared} {Q E : Value → Shared → Prop} {led : Led} {l l' : Addr} {a b c d a' b' c' d' : Value} {P1 P2 P3 P4 : Pt} {k k' : Nat}
    (N : News g₀ L s.heap led) (m : (l, ({ cls := .type "list", data := .seq #[a, b, c, d] k } : Obj)) ∈ led) (m' : (l', ({ cls := .type "list", data := .seq #[a', b', c', d'] k' } : Obj)) ∈ led)
    (h1 : PtIn led a P1) (h2 : PtIn led b P2) (h3 : PtIn led c P3) (h4 : PtIn led d P4) (k1 : PtIn led a' P1) (k2 : PtIn led b' P2) (k3 : PtIn led c' P3) (k4 : PtIn led d' P4) (hu : A.units + 64 < cLine) (h : Q (.bool false) s) :
    wpAny (MM w) A (compareOp .NotEq (.ref l) (.ref l')) Q E s := by
  obtain ⟨as, r⟩ := reads4 N m h1 h2 h3 h4
  obtain ⟨as', r'⟩ := reads4 N m' k1 k2 k3 k4
  refine ne_dataH r r' (shaped4 _ _ _ _) (shaped4 _ _ _ _) hu ?_
  simp only [PyData.eqv, PyData.eqvAll, ptD_self]
  exact h
local macro_rules | `(tactic| walk_at "compareOp NotEq ref ref") => `(tactic| (k_here; k_dflt (o_head ne_pts4 0 1 2 3 4 5 6 7 8 9 10 11 ?_ / [7, 2, 2, 8, 8, 8, 8, 8, 8, 8, 8, 9])))
theorem opp_none {led : Led} {p : Int} : PtIn led .none (oppI p none) := rfl
theorem opp_some {led : Led} {p x y : Int} {t : Addr} {tx ty : Tok} (m : (t, tupObj [.int x tx, .int (Int.fmod (-y) p) ty]) ∈ led) : PtIn led (.ref t) (oppI p (some (x, y))) := ⟨t, tx, ty, rfl, m⟩
local macro_rules | `(tactic| tb_rel) => `(tactic| first | (with_reducible exact opp_none) | (with_reducible refine opp_some ?_; k_mem) | fail "tb_rel")
def Same (h₀ : Heap) (L : Addr) (m : Str → Option Value) (base : Led) (s : Shared) (fl : Flow) (s' : Shared) : Prop :=
  fl = .next ∧ ∃ h' tk' led, s' = { s with heap := h', toks := tk' } ∧ Fr h₀ L h' m ∧ News h₀ L h' led ∧ ∀ q ∈ base, q ∈ led
theorem same_ {h₀ h' : Heap} {L : Addr} {m : Str → Option Value} {base led : Led} {s : Shared} {tk' : Nat} (F : Fr h₀ L h' m) (N : News h₀ L h' led) (k : ∀ q ∈ base, q ∈ led) : Same h₀ L m base s .next { s with heap := h', toks := tk' } :=
  ⟨rfl, h', tk', led, rfl, F, N, k⟩
/-- a statement that leaves the frame as it was -/
theorem cut_same {M : Model} {A : Around} {t : Sem Flow} {Q : Flow → Shared → Prop} {E : Value → Shared → Prop} {s : Shared} {h₀ : Heap} {L : Addr} {m : Str → Option Value} {base : Led} (F : Fr h₀ L s.heap m) (N : News h₀ L s.heap base)
    (br : wpAny M A t (Same h₀ L m base s) E s) (tl : ∀ h' tk' led, Fr h₀ L h' m → News h₀ L h' led → (∀ q ∈ base, q ∈ led) → Q .next { s with heap := h', toks := tk' }) : wpAny M A t Q E s :=
  wpAny_mono br (fun fl s' ⟨e, h', tk', led, e', F', N', k⟩ => by subst e; subst e'; exact tl h' tk' led F' N' k) fun _ _ h => h
def SetTo (x : Str) (R : Value → Led → Prop) (h₀ : Heap) (L : Addr) (m : Str → Option Value) (base : Led) (s : Shared) (fl : Flow) (s' : Shared) : Prop :=
  fl = .next ∧ ∃ v h' tk' led, s' = { s with heap := h', toks := tk' } ∧ Fr h₀ L h' (fun y => if y = x then some v else m y) ∧ News h₀ L h' led ∧ (∀ q ∈ base, q ∈ led) ∧ R v led
theorem setTo_ {x : Str} {R : Value → Led → Prop} {h₀ h' : Heap} {L : Addr} {m : Str → Option Value} {base led : Led} {s : Shared} {tk' : Nat} {v : Value} (F : Fr h₀ L h' (fun y => if y = x then some v else m y)) (N : News h₀ L h' led) (k : ∀ q ∈ base, q ∈ led) (r : R v led) :
    SetTo x R h₀ L m base s .next { s with heap := h', toks := tk' } := ⟨rfl, v, h', tk', led, rfl, F, N, k, r⟩
theorem cut_set {M : Model} {A : Around} {t : Sem Flow} {Q : Flow → Shared → Prop} {E : Value → Shared → Prop} {s : Shared} {h₀ : Heap} {L : Addr} {m : Str → Option Value} {base : Led} (x : Str) (R : Value → Led → Prop) (F : Fr h₀ L s.heap m) (N : News h₀ L s.heap base)
    (br : wpAny M A t (SetTo x R h₀ L m base s) E s) (tl : ∀ v h' tk' led, R v led → Fr h₀ L h' (fun y => if y = x then some v else m y) → News h₀ L h' led → (∀ q ∈ base, q ∈ led) → Q .next { s with heap := h', toks := tk' }) : wpAny M A t Q E s :=
  wpAny_mono br (fun fl s' ⟨e, v, h', tk', led, e', F', N', k, r⟩ => by subst e; subst e'; exact tl v h' tk' led r F' N' k) fun _ _ h => h
theorem tri_zero {t : Tri} (h : (t.1 == 0 && (t.2.1 == 0 && t.2.2 == 0)) = true) : t = (0, 0, 0) := by
  obtain ⟨x, y, z⟩ := t
  simp only [Bool.and_eq_true, beq_iff_eq] at h
  obtain ⟨h1, h2, h3⟩ := h
  rw [h1, h2, h3]
section
variable {p c n : Int} {P R : Pt} {f g q : Tri}
theorem on_z (H : Right p c P R f g q n) (h : q.2.2 = 0) : (q.2.2 == 0) = true ↔ onI p q c := by
  rw [H.onq, beq_iff_eq]; exact ⟨fun h => Or.inl h, fun _ => h⟩
theorem on_nz (H : Right p c P R f g q n) (h : q.2.2 ≠ 0) : (Int.fmod (q.2.1 * q.2.1 * q.2.2 - q.1 * q.1 * q.1 - c * q.2.2 * q.2.2 * q.2.2) p == 0) = true ↔ onI p q c := by
  rw [H.onq, beq_iff_eq]; exact ⟨fun h => Or.inr h, fun k => k.resolve_left h⟩
end
section
variable {w : World} {A : Around} {h₀ : Heap} {L : Addr} {m : Str → Option Value} {s : Shared} {ct elt : PySem.Expr} {x : Str} {scope : PySem.Scope} {cl : List (Str × Addr)} {env : Env} {S : Led → Prop} {P : Nat → Value → Prop} {Fin : List Value → Led → Prop} {base : Led}
/-- a comprehension whose test is false at every turn -/
theorem compT_none_at (hS : ∀ l, (∀ q ∈ base, q ∈ l) → S l) (n : Nat)
    (H : ∀ i v I oI C oC D oD m₂ h tk (E' : Value → Shared → Prop) news, i < n → P i v → LCg.NsObj oC m₂ → m₂ x = some v → Fr h₀ L h m → News h₀ L h ((I, oI) :: (C, oC) :: (D, oD) :: news) → LCg.Off3 I C D news → ((@Ne Nat I C) ∧ (@Ne Nat I D) ∧ (@Ne Nat C D)) → (∀ q ∈ base, q ∈ news) →
      wpAny (MM w) A (isTrue ct (compEnvC scope cl C env) (eval ct (compEnvC scope cl C env))) (fun ok s' => ok = false ∧ TurnEnd (fun _ _ => True) h₀ L m s I oI C oC D oD news Value.none s') E' { s with heap := h, toks := tk })
    (hF : ∀ led, (∀ q ∈ base, q ∈ led) → Fin [] led) :
    ∀ k i news, i + k = n → (∀ q ∈ base, q ∈ news) → LCt.CompRestT PySem.Challenge.rw_lh0030_01.row.prog w A h₀ L m env ct elt x scope cl s S P Fin k i [] news
  | 0, i, news, e, hb => hF news hb
  | k + 1, i, news, e, hb => by
    intro v I oI C oC D m₂ h tk E' hP hC hx F N off ne
    refine wpAny_mono (H i v I oI C oC D (LCg.lst []) m₂ h tk E' news (by omega) hP hC hx F N off ne hb) (fun ok s₂ h₂ => ?_) fun _ _ q => q
    obtain ⟨rfl, h', tk', led, rfl, F', N', off', hs, r⟩ := h₂
    rw [if_neg (by decide)]
    exact ⟨h', tk', led, rfl, F', N', off', hS _ fun q hq => hs q (hb q hq), compT_none_at hS n H hF k (i + 1) led (by omega) (fun q hq => hs q (hb q hq))⟩
theorem compT_none (hS : ∀ l, (∀ q ∈ base, q ∈ l) → S l) (n : Nat)
    (H : ∀ i v I oI C oC D oD m₂ h tk (E' : Value → Shared → Prop) news, i < n → P i v → LCg.NsObj oC m₂ → m₂ x = some v → Fr h₀ L h m → News h₀ L h ((I, oI) :: (C, oC) :: (D, oD) :: news) → LCg.Off3 I C D news → ((@Ne Nat I C) ∧ (@Ne Nat I D) ∧ (@Ne Nat C D)) → (∀ q ∈ base, q ∈ news) →
      wpAny (MM w) A (isTrue ct (compEnvC scope cl C env) (eval ct (compEnvC scope cl C env))) (fun ok s' => ok = false ∧ TurnEnd (fun _ _ => True) h₀ L m s I oI C oC D oD news Value.none s') E' { s with heap := h, toks := tk })
    (hF : ∀ led, (∀ q ∈ base, q ∈ led) → Fin [] led) :
    LCt.CompRestT PySem.Challenge.rw_lh0030_01.row.prog w A h₀ L m env ct elt x scope cl s S P Fin n 0 [] base :=
  compT_none_at hS n H hF n 0 base (by omega) fun _ h => h
end
theorem alike7 {a0 a1 a2 a3 a4 a5 a6 b0 b1 b2 b3 b4 b5 b6 : Bool} (h0 : a0 = b0) (h1 : a1 = b1) (h2 : a2 = b2) (h3 : a3 = b3) (h4 : a4 = b4) (h5 : a5 = b5) (h6 : a6 = b6) (i : Nat) (hi : i < 7) :
    ∃ b, (#[.bool a0, .bool a1, .bool a2, .bool a3, .bool a4, .bool a5, .bool a6] : Array Value).toList[((0 : Int) + (i : Int)).toNat]? = some (.bool b) ∧ (#[.bool b0, .bool b1, .bool b2, .bool b3, .bool b4, .bool b5, .bool b6] : Array Value).toList[((0 : Int) + (i : Int)).toNat]? = some (.bool b) := by
  subst h0; subst h1; subst h2; subst h3; subst h4; subst h5; subst h6
  match i, hi with
  | 0, _ => exact ⟨_, rfl, rfl⟩
  | 1, _ => exact ⟨_, rfl, rfl⟩
  | 2, _ => exact ⟨_, rfl, rfl⟩
  | 3, _ => exact ⟨_, rfl, rfl⟩
  | 4, _ => exact ⟨_, rfl, rfl⟩
  | 5, _ => exact ⟨_, rfl, rfl⟩
  | 6, _ => exact ⟨_, rfl, rfl⟩
theorem bool_ext {a b : Bool} {X : Prop} (h : a = true ↔ X) (k : b = true ↔ X) : a = b := by
  cases a <;> cases b <;> simp_all
local macro_rules | `(tactic| walk_at "subscriptTail") => `(tactic| (k_here; (with_reducible show wpAny _ _ (subscriptTail _ _ (Value.ref _) (Value.int (_ + _) _)) _ _ _); k_dflt (o_head lst_item (n := _) 0 1 2 3 4 ?_ / [1, 2, 6, 6, 7])))
local macro_rules | `(tactic| walk_at "call ref") => `(tactic| (k_here; k_dflt (o_head 368; o_head ⟨Spec.use0 _ _ _ _ [] spec_ltells⟩; intro v9 h9 tk9 F9 N9 P9; subst P9)))
theorem said_truth {p c n : Int} {P R : Pt} {f g q : Tri} (H : Right p c P R f g q n) {c3 c4 c5 c6 c7 b9 : Bool} (z3 : c3 = true ↔ onI p q c) (z4 : c4 = true ↔ onI p (addI p f g) c) (z5 : c5 = true ↔ eqI p f g) (z6 : c6 = true ↔ eqI p f q) (z7 : c7 = true ↔ eqI p q q) (hon : b9 = true ↔ onI p q c) (i : Nat) (hi : i < 7) :
    ∃ b, (#[.bool (f.2.2 == 0), .bool (q.2.2 == 0), .bool c3, .bool c4, .bool c5, .bool c6, .bool c7] : Array Value).toList[((0 : Int) + (i : Int)).toNat]? = some (.bool b) ∧
      (#[.bool (decide (P = none)), .bool (q.2.2 == 0), .bool b9, .bool true, .bool (decide (P = R)), .bool (decide (lread p f = lread p q)), .bool true] : Array Value).toList[((0 : Int) + (i : Int)).toNat]? = some (.bool b) := by
  refine alike7 ?_ rfl (bool_ext z3 hon) ?_ ?_ ?_ ?_ i hi
  · exact bool_ext (X := f.2.2 = 0) beq_iff_eq (by rw [decide_eq_true_iff]; exact H.inf.symm)
  · exact bool_ext z4 ⟨fun _ => H.ona, fun _ => rfl⟩
  · exact bool_ext z5 (by rw [decide_eq_true_iff]; exact H.efg.symm)
  · exact bool_ext z6 (by rw [decide_eq_true_iff]; exact H.efq.symm)
  · exact bool_ext z7 ⟨fun _ => H.eqq, fun _ => rfl⟩

-- OGEN
local macro_rules | `(tactic| walk_at "call ref") => `(tactic| o_head (49, Spec.useForm _ _ _ _ [] (spec_add1 _ () ())))
local macro_rules | `(tactic| walk_at "call ref") => `(tactic| o_head (274, Spec.useForm _ _ _ _ [] (spec_add2 _ () ())))
local macro_rules | `(tactic| walk_at "call ref") => `(tactic| o_head (42, Spec.useForm _ _ _ _ [] (spec_dbl1 _ ())))
local macro_rules | `(tactic| walk_at "call ref") => `(tactic| o_head (267, Spec.useForm _ _ _ _ [] (spec_dbl2 _ ())))
local macro_rules | `(tactic| walk_at "call ref") => `(tactic| o_head (77, Spec.useForm _ _ _ _ [] (spec_neg1 _ ())))
local macro_rules | `(tactic| walk_at "call ref") => `(tactic| o_head (302, Spec.useForm _ _ _ _ [] (spec_neg2 _ ())))
local macro_rules | `(tactic| walk_at "call ref") => `(tactic| o_head (56, Spec.useForm _ _ _ _ [] ((spec_mulN1 _ 20).get _ _ ())))
local macro_rules | `(tactic| walk_at "call ref") => `(tactic| o_head (281, Spec.useForm _ _ _ _ [] ((spec_mulN2 _ 20).get _ _ ())))
local macro_rules | `(tactic| walk_at "call ref") => `(tactic| o_head (316, Spec.usePt _ _ _ _ [] (spec_ladd _ () () _ _)))
local macro_rules | `(tactic| walk_at "call ref") => `(tactic| o_head (323, Spec.usePt _ _ _ _ [] (spec_ltimes (k := 20) _ () _ _ _)))
local macro_rules | `(tactic| walk_at "call ref") => `(tactic| o_head (70, Spec.useN _ _ _ _ [] (spec_norm1 _ () (norm_pos _ _) (norm_gcd _ _))))
local macro_rules | `(tactic| walk_at "call ref") => `(tactic| o_head (295, Spec.useN _ _ _ _ [] (spec_norm2 _ () (norm_pos _ _) (norm_gcd _ _))))
local macro_rules | `(tactic| walk_at "call ref") => `(tactic| o_head 35 * (Spec.use0 _ _ _ _ [] (spec_on1 _ () ())))
local macro_rules | `(tactic| walk_at "call ref") => `(tactic| o_head 63 * (Spec.use0 _ _ _ _ [] (spec_eqf1 _ () ())))
local macro_rules | `(tactic| walk_at "call ref") => `(tactic| o_head 260 * (Spec.use0 _ _ _ _ [] (spec_on2 _ () ())))
local macro_rules | `(tactic| walk_at "call ref") => `(tactic| o_head 288 * (Spec.use0 _ _ _ _ [] (spec_eqf2 _ () ())))
local macro_rules | `(tactic| walk_at "call ref") => `(tactic| (k_here; k_dflt (o_head 356; o_head ⟨Spec.use0 _ _ _ _ [] (spec_lalike _ () ())⟩; intro v9 h9 tk9 F9 N9 P9; subst P9)))
local macro_rules | `(tactic| walk_at "call ref") => `(tactic| o_head (28, call_inf1 _ _ _ _ [] _ ()))
local macro_rules | `(tactic| walk_at "call ref") => `(tactic| o_head (253, call_inf2 _ _ _ _ [] _ ()))
-- OGEN END
/-- after the If -/
inductive MidR (news : Led) (p c : Int) (P : Pt) (f g q : Tri) (n : Int) (k : Tok) (a b : Addr) (h₀ : Heap) (L' : Addr) (m₀ : Str → Option Value) (s : Shared) : Flow → Shared → Prop
  | mk (h' : Heap) (tk' : Nat) (led : Led) (lt ls a1 a2 a3 a4 : Addr) (c3 c4 c5 c6 c7 : Bool) (vq : Value) (i1 i2 : Nat) (o1 o2 o3 : Obj)
    (F : Fr h₀ L' h' (fun y => if y = Str.ofString "quotients" then some vq else if y = Str.ofString "told" then some (.ref lt) else if y = Str.ofString "second" then some (.ref b) else if y = Str.ofString "first" then some (.ref a) else m₀ y))
    (N : News h₀ L' h' led)
    (hs : (∀ q ∈ news, q ∈ led))
    (x1 : (L' + 1, o1) ∈ led)
    (x2 : o1.data = .cell (some (.int p k)))
    (x3 : (L' + 1 + 1, o2) ∈ led)
    (x4 : o2.data = .cell (some (.ref ls)))
    (x5 : (L' + 1 + 1 + 1, o3) ∈ led)
    (x6 : o3.data = .cell none)
    (y0 : (lt, ({ cls := .type "list", data := .seq #[.ref a1, .ref a2, .ref a3, .ref a4] i1 } : Obj)) ∈ led)
    (y1 : FormIn led (.ref a1) p (addI p f g))
    (y2 : FormIn led (.ref a2) p (dblI p f))
    (y3 : FormIn led (.ref a3) p (negI p f))
    (y4 : FormIn led (.ref a4) p (mulI p 20 g n))
    (z0 : (ls, ({ cls := .type "list", data := .seq #[.bool (f.2.2 == 0), .bool (q.2.2 == 0), .bool c3, .bool c4, .bool c5, .bool c6, .bool c7] i2 } : Obj)) ∈ led)
    (z3 : (c3 = true ↔ onI p q c))
    (z4 : (c4 = true ↔ onI p (addI p f g) c))
    (z5 : (c5 = true ↔ eqI p f g))
    (z6 : (c6 = true ↔ eqI p f q))
    (z7 : (c7 = true ↔ eqI p q q))
    (zq : ((P = none ∧ vq = .none) ∨ (P ≠ none ∧ PairIn led vq p f)))
    : MidR news p c P f g q n k a b h₀ L' m₀ s .next { s with heap := h', toks := tk' }
theorem midR_ {news led : Led} {p c : Int} {P : Pt} {f g q : Tri} {n : Int} {k : Tok} {a b : Addr} {h₀ h' : Heap} {L' : Addr} {m₀ : Str → Option Value} {s : Shared} {tk' : Nat} {lt ls a1 a2 a3 a4 : Addr} {c3 c4 c5 c6 c7 : Bool} {vq : Value} {i1 i2 : Nat} {o1 o2 o3 : Obj}
    (F : Fr h₀ L' h' (fun y => if y = Str.ofString "quotients" then some vq else if y = Str.ofString "told" then some (.ref lt) else if y = Str.ofString "second" then some (.ref b) else if y = Str.ofString "first" then some (.ref a) else m₀ y))
    (N : News h₀ L' h' led) (hs : ∀ q ∈ news, q ∈ led) (x1 : (L' + 1, o1) ∈ led) (x2 : o1.data = .cell (some (.int p k))) (x3 : (L' + 1 + 1, o2) ∈ led) (x4 : o2.data = .cell (some (.ref ls))) (x5 : (L' + 1 + 1 + 1, o3) ∈ led) (x6 : o3.data = .cell none)
    (y0 : (lt, ({ cls := .type "list", data := .seq #[.ref a1, .ref a2, .ref a3, .ref a4] i1 } : Obj)) ∈ led)
    (z0 : (ls, ({ cls := .type "list", data := .seq #[.bool (f.2.2 == 0), .bool (q.2.2 == 0), .bool c3, .bool c4, .bool c5, .bool c6, .bool c7] i2 } : Obj)) ∈ led)
    (y1 : FormIn led (.ref a1) p (addI p f g)) (y2 : FormIn led (.ref a2) p (dblI p f)) (y3 : FormIn led (.ref a3) p (negI p f)) (y4 : FormIn led (.ref a4) p (mulI p 20 g n))
    (z3 : c3 = true ↔ onI p q c) (z4 : c4 = true ↔ onI p (addI p f g) c) (z5 : c5 = true ↔ eqI p f g) (z6 : c6 = true ↔ eqI p f q) (z7 : c7 = true ↔ eqI p q q)
    (zq : (P = none ∧ vq = .none) ∨ (P ≠ none ∧ PairIn led vq p f)) : MidR news p c P f g q n k a b h₀ L' m₀ s .next { s with heap := h', toks := tk' } :=
  .mk h' tk' led lt ls a1 a2 a3 a4 c3 c4 c5 c6 c7 vq i1 i2 o1 o2 o3 F N hs x1 x2 x3 x4 x5 x6 y0 y1 y2 y3 y4 z0 z3 z4 z5 z6 z7 zq
theorem mid_mono {M : Model} {A : Around} {t : Sem Flow} {Q : Flow → Shared → Prop} {E : Value → Shared → Prop} {s s0 : Shared} {h₀ h : Heap} {L' : Addr} {m₀ : Str → Option Value} (news : Led) (p c : Int) (P : Pt) (f g q : Tri) (n : Int) (k : Tok) {a b : Addr}
    (F : Fr h₀ L' h (fun y => if y = Str.ofString "second" then some (.ref b) else if y = Str.ofString "first" then some (.ref a) else m₀ y))
    (br : wpAny M A t (MidR news p c P f g q n k a b h₀ L' m₀ s0) E s) (tl : ∀ fl s', MidR news p c P f g q n k a b h₀ L' m₀ s0 fl s' → Q fl s') : wpAny M A t Q E s := wpAny_mono br tl fun _ _ h => h
section
variable {w : World} {news : Led} {p c n which : Int} {lf lp sh st a b : Addr} {v1 v2 : Value} {P R : Pt} {f g q : Tri} {t u k : Tok} {i1 i2 : Nat}
theorem spec_lright (hp : Md p) (H : Right p c P R f g q n) (hn : 0 ≤ n) (hn2 : n < 2 ^ 20) (m1 : (lf, ({ cls := .type "list", data := .seq #[.ref a, .ref b] i1 } : Obj)) ∈ news) (m2 : (lp, ({ cls := .type "list", data := .seq #[v1, v2] i2 } : Obj)) ∈ news)
    (hf : FormIn news (.ref a) p f) (hg : FormIn news (.ref b) p g) (hq : FormIn news (.ref st) p q) (hs : FQin news (.ref sh) p c) (hP : PtIn news v1 P) (hR : PtIn news v2 R) :
    Spec w 373 [.int which t, .ref lf, .ref lp, .ref sh, .ref st, .int n u, .int p k] news 120 900 (fun _ v => v = .bool true) := by
  have hp0 := hp.ne
  have okP := H.okP
  have okR := H.okR
  refine spec_defC (by k_is) (by k_is) (fun _ => BindsTo.of_eq rfl) rfl (by decide) ?_ rfl rfl rfl (by kernel_rfl)
  intro mg mb g₀ h₁ L' A s tk cells F N Y X T hh hd hu hlt Q0 hQ0
  obtain ⟨o1, o2, o3, hE', d1', d2', d3'⟩ := CellsAre.three Y
  subst hE'
  clear Y
  replace N : News g₀ L' h₁ ((L' + 1 + 1 + 1, o1) :: (L' + 1 + 1, o2) :: (L' + 1, o3) :: news) := N
  have off : LCg.Off3 (L' + 1 + 1 + 1) (L' + 1 + 1) (L' + 1) news := LCg.Off3.of fun q hq => by have := hlt q hq; exact ⟨fun e => by rw [e] at this; omega, fun e => by rw [e] at this; omega, fun e => by rw [e] at this; omega⟩
  have m1' := m1
  w_strict (repeat' ((fail_if_success (with_reducible show wpAny _ _ (exec (Stmt.If _ _ _ _) _) _ _ _)); (first | (k_unfold; (try dsimp only)) | (k_end; wrow_close) | walk1 | (dsimp only; walk1) | (leave1; try dsimp only))))
  refine mid_mono news p c P f g q n k (s0 := s) (by assumption) ?br ?tl
  case br =>
    w_strict k_steps
    all_goals (refine' midR_ ?q1 ?q2 ?q3 ?q4 ?q5 ?q6 ?q7 ?q8 ?q9 ?q10 ?q11 ?q12 ?q13 ?q14 ?q15 ?q16 ?q17 ?q18 ?q19 ?q20 ?q21; (case q1 => assumption); (case q2 => assumption); (case q3 => tb_start); (case q4 => k_mem); (case q5 => exact d3'); (case q6 => k_mem); (case q7 => assumption); (case q8 => k_mem); (case q9 => exact d1'); (case q10 => k_mem); (case q11 => k_mem); (case q12 => tb_rel); (case q13 => tb_rel); (case q14 => tb_rel); (case q15 => tb_rel); (case q16 => assumption); (case q17 => assumption); (case q18 => assumption); (case q19 => assumption); (case q20 => assumption); (case q21 => first | exact Or.inl ⟨by assumption, rfl⟩ | exact Or.inr ⟨by assumption, by tb_rel⟩))
  case tl =>
    rintro fl s' ⟨h', tk', led, lt, ls, a1, a2, a3, a4, c3, c4, c5, c6, c7, vq, i3, i4, o1', o2', o3', F1, N1, hs1, x1, x2, x3, x4, x5, x6, y0, y1, y2, y3, y4, z0, z3, z4, z5, z6, z7, zq⟩
    dsimp only
    clear d1' d2' d3'
    obtain ⟨sq1, sq2, sq3⟩ : Sm 512 q.1 ∧ Sm 512 q.2.1 ∧ Sm 512 q.2.2 := by obtain ⟨_, _, _, _, _, _, A9, B9, C9⟩ := hq; exact ⟨A9.sm hp, B9.sm hp, C9.sm hp⟩
    have sc9 : Sm 512 c := hs.sm hp
    w_strict (repeat' ((fail_if_success (with_reducible show wpAny _ _ (exec (Stmt.Assign [Expr.Name (Str.ofString "opposite") _] _ _) _) _ _ _)); (first | (k_unfold; (try dsimp only)) | (k_end; wrow_close) | walk1 | (dsimp only; walk1) | (leave1; try dsimp only))))
    refine cut_set (Str.ofString "opposite") (fun v l => PtIn l v (oppI p P)) (by assumption) (by assumption) ?br0 ?tl0
    case br0 =>
      rcases P with _ | ⟨px, py⟩
      · have hP0 : PtIn news .none none := rfl
        obtain rfl : v1 = .none := hP
        w_strict k_steps
        all_goals exact setTo_ (by assumption) (by assumption) (by tb_start) opp_none
      · obtain ⟨tp, tpx, tpy, ep, mp⟩ := hP
        subst ep
        have sp1 : Sm 512 px := hp.sm_of okP.1.1 okP.1.2
        have sp2 : Sm 512 py := hp.sm_of okP.2.1 okP.2.2
        w_strict k_steps
        all_goals exact setTo_ (by assumption) (by assumption) (by tb_start) (opp_some (by k_mem))
    repeat (rename Fr _ _ _ _ => z9; clear z9)
    repeat (rename News _ _ _ _ => z9; clear z9)
    intro vo h2 tk2 led2 hvo F2 N2 hs2
    dsimp only at hvo ⊢
    w_strict (repeat' ((fail_if_success (with_reducible show wpAny _ _ (exec (Stmt.If _ _ _ _) _) _ _ _)); (first | (k_unfold; (try dsimp only)) | (k_end; wrow_close) | walk1 | (dsimp only; walk1) | (leave1; try dsimp only))))
    refine cut_same (by assumption) (by assumption) ?br1 ?tl1
    case br1 =>
      w_strict k_steps
      all_goals (refine' LCg.CompSrc.ledger ?a1 ?a2 ?a3 ?a4 ?a5 (fun g' => ?_); (case a1 => k_dflt assumption); (case a2 => k_asm); (case a3 => k_asm); (case a4 => k_mem); (case a5 => exact Nat.le_of_ble_eq_true rfl))
      all_goals (refine comp_pts (due4 (ladd p P R) (ladd p P P) (oppI p P) (ltimesF p 20 none R n)) (fun l hl => Or.inr ⟨_, hl _ (by k_mem), rfl, _, rfl⟩) ?_ ?_)
      all_goals (try (intro i v I oI C oC D oD m₂ h tk E' news' hi hv hC hx F N off ne hb))
      all_goals (try ((with_reducible show wpAny _ _ _ _ _ _); obtain ⟨z7, f7, rfl, y7, r7⟩ := told4 (by tb_rel) (by tb_rel) (by tb_rel) (by tb_rel) H.rd0 H.rd1 H.rd2 H.rd3 hv; rw [← r7]; k_steps))
      all_goals (try ((with_reducible show TurnEnd _ _ _ _ _ _ _ _ _ _ _ _ _ _); exact turnEnd_ (by assumption) (by assumption) (by assumption) (by tb_start) (by assumption)))
      all_goals (intro ys led7 hb7 hl7 hr7; obtain ⟨ya, yb, yc, yd, rfl⟩ := four hl7)
      all_goals (have r0 : PtIn led7 ya (ladd p P R) := hr7 0 ya rfl)
      all_goals (have r1 : PtIn led7 yb (ladd p P P) := hr7 1 yb rfl)
      all_goals (have r2 : PtIn led7 yc (oppI p P) := hr7 2 yc rfl)
      all_goals (have r3 : PtIn led7 yd (ltimesF p 20 none R n) := hr7 3 yd rfl)
      all_goals (clear hr7 hl7; k_steps)
      all_goals exact same_ (by assumption) (by assumption) (by tb_start)
    repeat (rename Fr _ _ _ _ => z9; clear z9)
    repeat (rename News _ _ _ _ => z9; clear z9)
    intro h3 tk3 led3 F3 N3 hs3
    dsimp only
    w_strict (repeat' ((fail_if_success (with_reducible show wpAny _ _ (exec (Stmt.If _ _ _ _) _) _ _ _)); (first | (k_unfold; (try dsimp only)) | (k_end; wrow_close) | walk1 | (dsimp only; walk1) | (leave1; try dsimp only))))
    refine cut_same (by assumption) (by assumption) ?br2 ?tl2
    case br2 =>
      rcases P with _ | ⟨px, py⟩
      · have hP0 : PtIn news .none none := rfl
        obtain rfl : v1 = .none := hP
        w_strict k_steps
        all_goals exact same_ (by assumption) (by assumption) (by tb_start)
      · rcases R with _ | ⟨qx, qy⟩
        · obtain rfl : v2 = .none := hR
          obtain ⟨tp, tpx, tpy, ep, mp⟩ := hP
          subst ep
          w_strict k_steps
          all_goals exact same_ (by assumption) (by assumption) (by tb_start)
        · obtain ⟨tp, tpx, tpy, ep, mp⟩ := hP
          subst ep
          obtain ⟨tq, tqx, tqy, eq', mq⟩ := hR
          subst eq'
          w_strict k_steps
          all_goals first
            | exact same_ (by assumption) (by assumption) (by tb_start)
            | (exfalso; exact H.bad (Option.some_ne_none _) (Option.some_ne_none _) (by assumption) (tri_zero (by assumption)))
    repeat (rename Fr _ _ _ _ => z9; clear z9)
    repeat (rename News _ _ _ _ => z9; clear z9)
    intro h4 tk4 led4 F4 N4 hs4
    dsimp only
    clear y0 y1 y2 y3 y4 hvo hg hn hn2 m1 m1'
    have w2 : (L' + 1, o1') ∈ led4 := by k_mem
    have w3 : (L' + 1 + 1, o2') ∈ led4 := by k_mem
    have w5 : (L' + 1 + 1 + 1, o3') ∈ led4 := by k_mem
    have w7 : (ls, ({ cls := .type "list", data := .seq #[.bool (f.2.2 == 0), .bool (q.2.2 == 0), .bool c3, .bool c4, .bool c5, .bool c6, .bool c7] i4 } : Obj)) ∈ led4 := by k_mem
    have wq : (P = none ∧ vq = .none) ∨ (P ≠ none ∧ PairIn led4 vq p f) := zq.imp id (fun h => ⟨h.1, by have h' := h.2; tb_rel⟩)
    have w1 : ∀ q ∈ news, q ∈ led4 := by tb_start
    have w8 := And.intro w1 (And.intro hP (And.intro hR (And.intro w2 (And.intro w3 (And.intro w5 (And.intro w7 wq))))))
    clear x1 x3 x5 z0 zq w1 w2 w3 w5 w7 wq
    repeat (rename (∀ q, q ∈ _ → q ∈ _) => z9; clear z9)
    repeat (rename PtIn _ _ _ => z9; clear z9)
    obtain ⟨hs1, hP, hR, x1, x3, x5, z0, zq⟩ := w8
    w_strict (repeat' ((fail_if_success (with_reducible show wpAny _ _ (exec (Stmt.Assign [Expr.Name (Str.ofString "on") _] _ _) _) _ _ _)); (first | (k_unfold; (try dsimp only)) | (k_end; wrow_close) | walk1 | (dsimp only; walk1) | (leave1; try dsimp only))))
    refine cut_set (Str.ofString "on") (fun v _ => ∃ b, v = .bool b ∧ (b = true ↔ onI p q c)) (by assumption) (by assumption) ?br3 ?tl3
    case br3 =>
      w_strict k_steps
      all_goals first
        | exact setTo_ (by assumption) (by assumption) (by tb_start) ⟨_, rfl, on_z H (by assumption)⟩
        | exact setTo_ (by assumption) (by assumption) (by tb_start) ⟨_, rfl, on_nz H (by assumption)⟩
    repeat (rename Fr _ _ _ _ => z9; clear z9)
    repeat (rename News _ _ _ _ => z9; clear z9)
    rintro vb h5 tk5 led5 ⟨b9, rfl, hon⟩ F5 N5 hs5
    dsimp only
    clear hs sq1 sq2 sq3 sc9
    have w2 : (L' + 1, o1') ∈ led5 := by k_mem
    have w3 : (L' + 1 + 1, o2') ∈ led5 := by k_mem
    have w5 : (L' + 1 + 1 + 1, o3') ∈ led5 := by k_mem
    have w7 : (ls, ({ cls := .type "list", data := .seq #[.bool (f.2.2 == 0), .bool (q.2.2 == 0), .bool c3, .bool c4, .bool c5, .bool c6, .bool c7] i4 } : Obj)) ∈ led5 := by k_mem
    have wq : (P = none ∧ vq = .none) ∨ (P ≠ none ∧ PairIn led5 vq p f) := zq.imp id (fun h => ⟨h.1, by have h' := h.2; tb_rel⟩)
    have w1 : ∀ q ∈ news, q ∈ led5 := by tb_start
    have w8 := And.intro w1 (And.intro hP (And.intro hR (And.intro w2 (And.intro w3 (And.intro w5 (And.intro w7 wq))))))
    clear x1 x3 x5 z0 zq w1 w2 w3 w5 w7 wq
    repeat (rename (∀ q, q ∈ _ → q ∈ _) => z9; clear z9)
    repeat (rename PtIn _ _ _ => z9; clear z9)
    obtain ⟨hs1, hP, hR, x1, x3, x5, z0, zq⟩ := w8
    w_strict k_steps
    refine LCt.ListComp_T (F₀ := by k_asm) (by with_unfolding_all rfl) (by decide) (by rfl) (by decide) (by rfl) ?_
    w_strict k_steps
    have htr := said_truth H z3 z4 z5 z6 z7 hon
    refine LCt.CompSrcT.range (n := 7) (by k_dflt assumption) (by k_asm) (by k_asm) (by assumption) (by decide) (by rfl) (Nat.le_of_ble_eq_true rfl) (fun g' => ?_)
    refine compT_none (fun _ _ => trivial) 7 ?_ ?_
    · intro i v I oI C oC D oD m₂ h tk E' news' hi hv hC hx F N off' ne hb
      obtain ⟨t9, rfl⟩ := hv
      obtain ⟨b, e1, e2⟩ := htr i hi
      cases b <;> (w_strict k_steps)
      all_goals first
        | exact turnEnd_ (by assumption) (by assumption) (by assumption) (by tb_start) trivial
        | exact ⟨rfl, turnEnd_ (by assumption) (by assumption) (by assumption) (by tb_start) trivial⟩
    intro led6 hb6
    w_strict (repeat' ((fail_if_success (with_reducible show wpAny _ _ (exec (Stmt.Return _ _) _) _ _ _)); (first | (k_unfold; (try dsimp only)) | (k_end; wrow_close) | walk1 | (dsimp only; walk1) | (leave1; try dsimp only))))
    rcases zq with ⟨rfl, rfl⟩ | ⟨nP, hq2⟩
    · obtain rfl : v1 = .none := hP
      w_strict k_steps
      all_goals exact hQ0 _ _ (back_ (by assumption) (by assumption) (by tb_start) rfl)
    · rcases P with _ | ⟨px, py⟩
      · exact absurd rfl nP
      obtain ⟨tp, tpx, tpy, ep, mp⟩ := hP
      subst ep
      obtain ⟨tq, xq, yq, rfl, mq, dx, dy⟩ := hq2
      obtain ⟨r1, r10, r11, r12, fx⟩ := dx
      obtain ⟨r2, r20, r21, r22, fy⟩ := dy
      have ex := (H.quo px py rfl r1 r10 r11 r12).1
      have ey := (H.quo px py rfl r2 r20 r21 r22).2
      rw [ex] at fx
      rw [ey] at fy
      w_strict k_steps
      all_goals exact hQ0 _ _ (back_ (by assumption) (by assumption) (by tb_start) rfl)
end

def RetTrue (g₀ : Heap) (s : Shared) (fl : Flow) (s' : Shared) : Prop := fl = .ret (.bool true) ∧ ∃ h' tk', s' = { s with heap := h', toks := tk' } ∧ g₀.StaysIn h'
theorem ret_mono {M : Model} {A : Around} {t : Sem Flow} {Q : Flow → Shared → Prop} {E : Value → Shared → Prop} {s : Shared} {g₀ : Heap} {L : Addr} {m : Str → Option Value} (F : Fr g₀ L s.heap m)
    (tl : ∀ h' tk', g₀.StaysIn h' → Q (.ret (.bool true)) { s with heap := h', toks := tk' }) (br : wpAny M A t (RetTrue g₀ s) (fun _ _ => False) s) : wpAny M A t Q E s :=
  wpAny_mono br (fun fl s' ⟨e, h', tk', e', k⟩ => by subst e; subst e'; exact tl h' tk' k) fun _ _ h => h.elim
theorem retTrue_ {g₀ h' : Heap} {L : Addr} {m : Str → Option Value} {s : Shared} {tk' : Nat} (F : Fr g₀ L h' m) : RetTrue g₀ s (.ret (.bool true)) { s with heap := h', toks := tk' } := ⟨rfl, h', tk', rfl, F.keep⟩
inductive Eleven : List Value → Prop
  | mk (g0 g1 g2 g3 g4 g5 g6 g7 g8 g9 g10 : Int) (t0 t1 t2 t3 t4 t5 t6 t7 t8 t9 t10 : Tok) (q0 : 0 ≤ g0) (q1 : 0 ≤ g1) (q2 : 0 ≤ g2) (q3 : 0 ≤ g3) (q4 : 0 ≤ g4) (q5 : 0 ≤ g5) (q6 : 0 ≤ g6) (q7 : 0 ≤ g7) (q8 : 0 ≤ g8) (q9 : 0 ≤ g9) (q10 : 0 ≤ g10) : Eleven [.int g0 t0, .int g1 t1, .int g2 t2, .int g3 t3, .int g4 t4, .int g5 t5, .int g6 t6, .int g7 t7, .int g8 t8, .int g9 t9, .int g10 t10]
theorem eleven {ys : List Value} {f : Int → Int} (hI : IntsAre ys (List.map f (rangeKs 0 ((11 : Int) - 0).toNat))) (h0 : ∀ k, 0 ≤ k → 0 ≤ f k) : Eleven ys := by
  have e : (rangeKs 0 ((11 : Int) - 0).toNat) = [0, 1, 2, 3, 4, 5, 6, 7, 8, 9, 10] := by decide
  rw [e] at hI
  simp only [List.map_cons, List.map_nil] at hI
  cases hI with | cons _ t0 hI => cases hI with | cons _ t1 hI => cases hI with | cons _ t2 hI => cases hI with | cons _ t3 hI => cases hI with | cons _ t4 hI => cases hI with | cons _ t5 hI => cases hI with | cons _ t6 hI => cases hI with | cons _ t7 hI => cases hI with | cons _ t8 hI => cases hI with | cons _ t9 hI => cases hI with | cons _ t10 hI => cases hI with | nil =>
    exact .mk _ _ _ _ _ _ _ _ _ _ _ t0 t1 t2 t3 t4 t5 t6 t7 t8 t9 t10 (h0 _ (by decide)) (h0 _ (by decide)) (h0 _ (by decide)) (h0 _ (by decide)) (h0 _ (by decide)) (h0 _ (by decide)) (h0 _ (by decide)) (h0 _ (by decide)) (h0 _ (by decide)) (h0 _ (by decide)) (h0 _ (by decide))
theorem given_nn {l : List Int} (k : Int) (hk : 0 ≤ k) : 0 ≤ (if k < (l.length : Int) then if l.getD k.toNat 0 < 0 then -l.getD k.toNat 0 else l.getD k.toNat 0 else 9 * k + 7) := by
  split
  · split <;> omega
  · omega
theorem fm_rng {a b : Int} (h : 0 < b) : 0 ≤ Int.fmod a b ∧ Int.fmod a b < b := by
  rw [Int.fmod_eq_emod_of_nonneg a (by omega)]; exact ⟨Int.emod_nonneg _ (by omega), Int.emod_lt_of_pos _ h⟩
section
variable {w : World} {A : Around} {E : Value → Shared → Prop} {s : Shared} {g₀ : Heap} {L l : Addr} {led : Led} {value slice : PySem.Expr} {k : Int} {u : Tok} {Q : Value → Shared → Prop}
theorem primes_sub {t0 t1 t2 t3 t4 t5 t6 t7 t8 t9 t10 t11 : Tok} {n : Nat} (N : News g₀ L s.heap led) (hm : (l, primesObj t0 t1 t2 t3 t4 t5 t6 t7 t8 t9 t10 t11 n) ∈ led) (h0 : 0 ≤ k) (h1 : k < 12) (h : ∀ p t, Ok p → Q (.int p t) s)
    (hs : subscripted slice false (.ref l) (.int k u) = operate [.ref l, .int k u] (getItem (.ref l) (.int k u)) := by with_unfolding_all rfl) :
    wpAny (MM w) A (subscriptTail value slice (.ref l) (.int k u)) Q E s := by
  have c : k = 0 ∨ k = 1 ∨ k = 2 ∨ k = 3 ∨ k = 4 ∨ k = 5 ∨ k = 6 ∨ k = 7 ∨ k = 8 ∨ k = 9 ∨ k = 10 ∨ k = 11 := by omega
  have hh : k < 2 ^ 63 := by omega
  rcases c with rfl | rfl | rfl | rfl | rfl | rfl | rfl | rfl | rfl | rfl | rfl | rfl
  · exact lst_item N hm h0 hh rfl (h _ _ ok0) hs
  · exact lst_item N hm h0 hh rfl (h _ _ ok1) hs
  · exact lst_item N hm h0 hh rfl (h _ _ ok2) hs
  · exact lst_item N hm h0 hh rfl (h _ _ ok3) hs
  · exact lst_item N hm h0 hh rfl (h _ _ ok4) hs
  · exact lst_item N hm h0 hh rfl (h _ _ ok5) hs
  · exact lst_item N hm h0 hh rfl (h _ _ ok6) hs
  · exact lst_item N hm h0 hh rfl (h _ _ ok7) hs
  · exact lst_item N hm h0 hh rfl (h _ _ ok8) hs
  · exact lst_item N hm h0 hh rfl (h _ _ ok9) hs
  · exact lst_item N hm h0 hh rfl (h _ _ ok10) hs
  · exact lst_item N hm h0 hh rfl (h _ _ ok11) hs
theorem three_sub {a b c : Value} {n : Nat} (N : News g₀ L s.heap led) (hm : (l, ({ cls := .type "list", data := .seq #[a, b, c] n } : Obj)) ∈ led) (h0 : 0 ≤ k) (h1 : k < 3) (h : ∀ v, (v = a ∨ v = b ∨ v = c) → Q v s)
    (hs : subscripted slice false (.ref l) (.int k u) = operate [.ref l, .int k u] (getItem (.ref l) (.int k u)) := by with_unfolding_all rfl) :
    wpAny (MM w) A (subscriptTail value slice (.ref l) (.int k u)) Q E s := by
  have c : k = 0 ∨ k = 1 ∨ k = 2 := by omega
  have hh : k < 2 ^ 63 := by omega
  rcases c with rfl | rfl | rfl
  · exact lst_item N hm h0 hh rfl (h _ (Or.inl rfl)) hs
  · exact lst_item N hm h0 hh rfl (h _ (Or.inr (Or.inl rfl))) hs
  · exact lst_item N hm h0 hh rfl (h _ (Or.inr (Or.inr rfl))) hs
end
def ScaleOk (p s : Int) : Prop := Sm 512 s ∧ s % p ≠ 0
theorem sm_scale {p s : Int} (h : ScaleOk p s) : Sm 512 s := h.1
theorem scale_of {p g : Int} (h : Ok p) : ScaleOk p (1 + Int.fmod g (p - 1)) := by
  obtain ⟨hp, n, rfl, h2, h3⟩ := h
  have := fm_rng (a := g) (b := (n : Int) - 1) (by omega)
  refine ⟨hp.sm_of (by omega) (by omega), ?_⟩
  rw [Int.emod_eq_of_lt (by omega) (by omega)]; omega
theorem shift_of {p g : Int} (h : Ok p) : 0 < 1 + Int.fmod g (p - 1) ∧ 1 + Int.fmod g (p - 1) < p := by
  obtain ⟨hp, n, rfl, h2, h3⟩ := h
  have := fm_rng (a := g) (b := (n : Int) - 1) (by omega)
  omega
local macro_rules | `(tactic| walk_at "subscriptTail") => `(tactic| (k_here; (with_reducible show wpAny _ _ (subscriptTail _ _ (Value.ref _) (Value.int (Int.fmod _ 12) _)) _ _ _); k_dflt (o_head primes_sub 0 1 2 3 ?_ / [1, 2, by exact (fm_rng (by decide)).1, by exact (fm_rng (by decide)).2]); intros))
theorem setTo_same {x : Str} {R : Value → Led → Prop} {h₀ h' : Heap} {L : Addr} {m : Str → Option Value} {base led : Led} {s : Shared} {tk' : Nat} {v : Value} (F : Fr h₀ L h' m) (e : m x = some v) (N : News h₀ L h' led) (k : ∀ q ∈ base, q ∈ led) (r : R v led) :
    SetTo x R h₀ L m base s .next { s with heap := h', toks := tk' } := by
  have : (fun y => if y = x then some v else m y) = m := by
    funext y
    by_cases h : y = x
    · rw [if_pos h, h, e]
    · rw [if_neg h]
  exact ⟨rfl, v, h', tk', led, rfl, this.symm ▸ F, N, k, r⟩
theorem NumsIn.reads {h₀ h : Heap} {L : Addr} {led : Led} {v : Value} {f : Tri} (N : News h₀ L h led) (hP : NumsIn led v f) : ∃ as, Reads h v (.list [.int f.1, .int f.2.1, .int f.2.2]) as := by
  obtain ⟨l, t1, t2, t3, n, rfl, m⟩ := hP
  exact ⟨_, .list (N.get m) rfl rfl (.cons (.int _ _) (.cons (.int _ _) (.cons (.int _ _) .nil)))⟩
theorem reads2 {h₀ h : Heap} {L l : Addr} {led : Led} {a b : Value} {f g : Tri} {k : Nat} (N : News h₀ L h led) (m : (l, ({ cls := .type "list", data := .seq #[a, b] k } : Obj)) ∈ led)
    (h1 : NumsIn led a f) (h2 : NumsIn led b g) : ∃ as, Reads h (.ref l) (.list [.list [.int f.1, .int f.2.1, .int f.2.2], .list [.int g.1, .int g.2.1, .int g.2.2]]) as := by
  obtain ⟨as, r⟩ := h1.reads N
  obtain ⟨bs, r'⟩ := h2.reads N
  exact ⟨_, .list (N.get m) rfl rfl (.cons r (.cons r' .nil))⟩
theorem eq_nums2 {w : World} {g₀ : Heap} {L : Addr} {A : Around} {s : Shared} {Q E : Value → Shared → Prop} {led : Led} {l l' : Addr} {a b a' b' : Value} {f g : Tri} {k k' : Nat}
    (N : News g₀ L s.heap led) (m : (l, ({ cls := .type "list", data := .seq #[a, b] k } : Obj)) ∈ led) (m' : (l', ({ cls := .type "list", data := .seq #[a', b'] k' } : Obj)) ∈ led)
    (h1 : NumsIn led a f) (h2 : NumsIn led b g) (k1 : NumsIn led a' f) (k2 : NumsIn led b' g) (hu : A.units + 64 < cLine) (h : Q (.bool true) s) :
    wpAny (MM w) A (compareOp .Eq (.ref l) (.ref l')) Q E s := by
  obtain ⟨as, r⟩ := reads2 N m h1 h2
  obtain ⟨as', r'⟩ := reads2 N m' k1 k2
  refine eq_dataH r r' ?_ ?_ hu ?_
  · simp [PySem.SeqAt.shaped, PyData.canLay0, PyData.canLayAll0, PyData.depth, PyData.depthAll]
  · simp [PySem.SeqAt.shaped, PyData.canLay0, PyData.canLayAll0, PyData.depth, PyData.depthAll]
  · simp only [PyData.eqv, PyData.eqvAll, beq_self_eq_true, Bool.and_self]
    exact h
local macro_rules | `(tactic| tb_rel) => `(tactic| ((with_reducible show NumsIn _ _ _); first | with_reducible assumption | o_head NumsIn.mono + 1 | o_head NumsIn.mono + 3 | fail "tb_rel"))
def two2 (f g : Tri) : Nat → Tri
  | 0 => f
  | _ => g
theorem comp_nums {w : World} {A : Around} {h₀ : Heap} {L : Addr} {m : Str → Option Value} {s : Shared} {elt : PySem.Expr} {x : Str} {scope : PySem.Scope} {cl : List (Str × Addr)} {env : Env} {S : Led → Prop} {Fin : List Value → Led → Prop} {base : Led} {its : Array Value} (D9 : Nat → Tri)
    (hS : ∀ l, (∀ q ∈ base, q ∈ l) → S l)
    (H : ∀ i v I oI C oC D oD m₂ h tk (E' : Value → Shared → Prop) news, i < its.size → its[i]? = some v → LCg.NsObj oC m₂ → m₂ x = some v → Fr h₀ L h m → News h₀ L h ((I, oI) :: (C, oC) :: (D, oD) :: news) → LCg.Off3 I C D news → ((@Ne Nat I C) ∧ (@Ne Nat I D) ∧ (@Ne Nat C D)) → (∀ q ∈ base, q ∈ news) →
      wpAny (MM w) A (eval elt (compEnvC scope cl C env)) (TurnEnd (fun y l => NumsIn l y (D9 i)) h₀ L m s I oI C oC D oD news) E' { s with heap := h, toks := tk })
    (hF : ∀ ys led, (∀ q ∈ base, q ∈ led) → ys.length = its.size → (∀ i y, ys[i]? = some y → NumsIn led y (D9 i)) → Fin ys led) :
    LCg.CompRest PySem.Challenge.rw_lh0030_01.row.prog w A h₀ L m env elt x scope cl s S (fun i v => its[i]? = some v) Fin its.size 0 [] base :=
  comp_rest (R := fun i y l => NumsIn l y (D9 i)) (fun _ _ _ _ h k => h.mono k) hS _ H hF
theorem forms2 {led : Led} {p : Int} {a b : Addr} {f g : Tri} (h1 : FormIn led (.ref a) p f) (h2 : FormIn led (.ref b) p g) {i : Nat} {v : Value} (hv : (#[.ref a, .ref b] : Array Value)[i]? = some v) :
    ∃ z, v = .ref z ∧ FormIn led (.ref z) p (two2 f g i) := by
  match i, hv with
  | 0, h => cases h; exact ⟨_, rfl, h1⟩
  | 1, h => cases h; exact ⟨_, rfl, h2⟩
  | k + 2, h => exact absurd h (by simp)
theorem two {ys : List Value} (h : ys.length = 2) : ∃ a b, ys = [a, b] := by
  match ys, h with
  | [a, b], _ => exact ⟨a, b, rfl⟩
local macro_rules | `(tactic| walk_at "call ref") => `(tactic| (k_here; k_dflt (o_head 309; o_head ⟨Spec.useN _ _ _ _ [] spec_lprimes⟩; intro v9 h9 tk9 led9 F9 N9 hs9 P9; obtain ⟨l9, a0, a1, a2, a3, a4, a5, a6, a7, a8, a9, a10, a11, n9, P9⟩ := P9)))
local macro_rules | `(tactic| walk_at "call ref") => `(tactic| (k_here; k_dflt (o_head 330; o_head ⟨Spec.useN _ _ _ _ [] (spec_lpoint _ _ _ _)⟩; intro v9 h9 tk9 led9 F9 N9 hs9 P9; obtain ⟨P8, P9, O8, O9⟩ := P9)))
local macro_rules | `(tactic| walk_at "call ref") => `(tactic| o_head (316, Spec.usePt _ _ _ _ [] (spec_ladd _ () () _ _)))
local macro_rules | `(tactic| walk_at "call ref") => `(tactic| o_head (337, Spec.useForm _ _ _ _ [] (spec_lform _ () (by first | assumption | exact ladd_ok _ _ _) (sm_scale _))))
local macro_rules | `(tactic| walk_at "call ref") => `(tactic| (k_here; k_dflt (o_head 361; o_head ⟨Spec.useN _ _ _ _ [] (spec_lany _ (by k_mem))⟩; intro v9 h9 tk9 led9 F9 N9 hs9 P9; obtain ⟨f8, P9, O9⟩ := P9; obtain ⟨z9, e9⟩ := FormIn.isRef P9; subst e9)))
local macro_rules | `(tactic| walk_at "call ref") => `(tactic| o_head (342, Spec.useO _ _ _ _ _ [] (spec_lnum ())))
local macro_rules | `(tactic| walk_at "call ref") => `(tactic| (k_here; k_dflt (o_head 373; (o_head Spec.use0 0 1 2 3 4 (spec_lright 5 6 7 8 9 10 11 12 13 14 15 16) 17 18 ?_ / [7, 7, 7, 7, 12, 7, 11, 7, 7, 2, 2, 8, 8, 8, 8, 8, 8, 9, 9]); intro v9 h9 tk9 F9 N9 P9; subst P9)))
local macro_rules | `(tactic| walk_at "compareOp Eq ref ref") => `(tactic| (k_here; k_dflt (o_head eq_nums2 0 1 2 3 4 5 6 7 ?_ / [7, 2, 2, 8, 8, 8, 8, 9])))
local macro_rules | `(tactic| walk_at "subscriptTail") => `(tactic| (k_here; (with_reducible show wpAny _ _ (subscriptTail _ _ (Value.ref _) (Value.int (Int.fmod _ 8) _)) _ _ _); k_dflt (o_head three_sub 0 1 2 3 ?_ / [1, 2, by exact (fm_rng (by decide)).1, 7]); intros))
local macro_rules | `(tactic| k_qdec) => `(tactic| first | (rewrite [Fast.te2458874890965802552]; kernel_rfl) | (rewrite [Fast.te17448422675489707002, Fast.te821141287760084731]; kernel_rfl))
theorem fin0 : PySem.Challenge.rw_lh0030_01.Holds := hd (by
  w_strict (k_go0)
  rename Top _ _ _ _ _ _ => T0
  have T1 : TR _ _ _ := topRead_of T0
  rename Fr _ _ _ _ => F0
  first | (replace F0 : Fr _ _ _ (fun y => if y = Str.ofString "script" then some _ else none) := F0) | (replace F0 : Fr _ _ _ (fun _ => none) := F0) | fail "m0"
  refine ret_mono (by assumption) ?tl ?br
  case tl =>
    intro h' tk' hk
    dsimp only
    refine ⟨.inl ⟨_, _, [], rfl, fun _ => rfl, .bool true, ?_, fun _ => ⟨List.nodup_nil, fun _ h => by cases h⟩⟩, hk, rfl, by assumption⟩
    first | (with_unfolding_all rfl) | wrow_post
  w_strict (repeat' ((fail_if_success (with_reducible show wpAny _ _ (exec (Stmt.Assign [Expr.Name (Str.ofString "prime") _] _ _) _) _ _ _)); (first | (k_unfold; (try dsimp only)) | (k_end; wrow_close) | walk1 | (dsimp only; walk1) | (leave1; try dsimp only))))
  rename_i gva hZ tkZ FZ NZ oZ
  rename IntsAre _ (List.map _ _) => hI8
  obtain ⟨g0, g1, g2, g3, g4, g5, g6, g7, g8, g9, g10, t0, t1, t2, t3, t4, t5, t6, t7, t8, t9, t10, q0, q1, q2, q3, q4, q5, q6, q7, q8, q9, q10⟩ := eleven hI8 (fun k hk => given_nn k hk)
  rename News _ _ _ _ => N0
  change News _ _ _ ((_, gvObj g0 g1 g2 g3 g4 g5 g6 g7 g8 g9 g10 t0 t1 t2 t3 t4 t5 t6 t7 t8 t9 t10 11) :: _) at N0
  have hgv : (gva, gvObj g0 g1 g2 g3 g4 g5 g6 g7 g8 g9 g10 t0 t1 t2 t3 t4 t5 t6 t7 t8 t9 t10 11) ∈ ((gva, gvObj g0 g1 g2 g3 g4 g5 g6 g7 g8 g9 g10 t0 t1 t2 t3 t4 t5 t6 t7 t8 t9 t10 11) :: [] : Led) := .head _
  have hd0 : callerA.depth + 180 < recursionLimit := by decide
  have hu0 : callerA.units + 1500 < cLine := by decide
  have hh0 : callerA.handled = none := rfl
  generalize callerA = A0 at hd0 hu0 hh0 ⊢
  refine cut_set (Str.ofString "prime") (fun v l => ∃ p t, v = .int p t ∧ Ok p) (by assumption) (by assumption) ?b1 ?t1
  case b1 =>
    w_strict k_steps
    all_goals exact setTo_ (by assumption) (by assumption) (by tb_start) ⟨_, _, rfl, by assumption⟩
  repeat (rename Fr _ _ _ _ => z9; clear z9)
  repeat (rename News _ _ _ _ => z9; clear z9)
  rintro _ h1 tk1 led1 ⟨p, tp, rfl, hO⟩ F1 N1 hs1
  have hp : Md p := hO.1
  have hp0 : p ≠ 0 := hp.ne
  have hp1 : p - 1 ≠ 0 := by obtain ⟨_, n9, rfl, _, h9⟩ := hO; omega
  dsimp only
  have y_hgv : (gva, gvObj g0 g1 g2 g3 g4 g5 g6 g7 g8 g9 g10 t0 t1 t2 t3 t4 t5 t6 t7 t8 t9 t10 11) ∈ led1 := hs1 _ (.head _)
  clear hgv
  repeat (rename (∀ q, q ∈ _ → q ∈ _) => z9; clear z9)
  have hgv := y_hgv
  clear y_hgv
  w_strict (repeat' ((fail_if_success (with_reducible show wpAny _ _ (exec (Stmt.Assign [Expr.Name (Str.ofString "shift") _] _ _) _) _ _ _)); (first | (k_unfold; (try dsimp only)) | (k_end; wrow_close) | walk1 | (dsimp only; walk1) | (leave1; try dsimp only))))
  refine cut_set (Str.ofString "shift") (fun v l => ∃ c t, v = .int c t ∧ 0 < c ∧ c < p) (by assumption) (by assumption) ?b2 ?t2
  case b2 =>
    w_strict k_steps
    all_goals exact setTo_ (by assumption) (by assumption) (by tb_start) ⟨_, _, rfl, shift_of hO⟩
  repeat (rename Fr _ _ _ _ => z9; clear z9)
  repeat (rename News _ _ _ _ => z9; clear z9)
  rintro _ h2 tk2 led2 ⟨c, tc, rfl, c0, c1⟩ F2 N2 hs2
  have c0' : 0 ≤ c := Int.le_of_lt c0
  dsimp only
  have y_hgv : (gva, gvObj g0 g1 g2 g3 g4 g5 g6 g7 g8 g9 g10 t0 t1 t2 t3 t4 t5 t6 t7 t8 t9 t10 11) ∈ led2 := by k_mem
  clear hgv
  repeat (rename (∀ q, q ∈ _ → q ∈ _) => z9; clear z9)
  have hgv := y_hgv
  clear y_hgv
  w_strict (repeat' ((fail_if_success (with_reducible show wpAny _ _ (exec (Stmt.Assign [Expr.Name (Str.ofString "first") _] _ _) _) _ _ _)); (first | (k_unfold; (try dsimp only)) | (k_end; wrow_close) | walk1 | (dsimp only; walk1) | (leave1; try dsimp only))))
  refine cut_set (Str.ofString "first") (fun v l => ∃ P, PtIn l v P ∧ PtOk p P ∧ OnC p c P) (by assumption) (by assumption) ?b3 ?t3
  case b3 =>
    w_strict k_steps
    all_goals exact setTo_ (by assumption) (by assumption) (by tb_start) ⟨_, by assumption, by assumption, by assumption⟩
  repeat (rename Fr _ _ _ _ => z9; clear z9)
  repeat (rename News _ _ _ _ => z9; clear z9)
  rintro v1 h3 tk3 led3 ⟨P, hP, okP, onP⟩ F3 N3 hs3
  dsimp only
  have y_hgv : (gva, gvObj g0 g1 g2 g3 g4 g5 g6 g7 g8 g9 g10 t0 t1 t2 t3 t4 t5 t6 t7 t8 t9 t10 11) ∈ led3 := by k_mem
  clear hgv
  repeat (rename (∀ q, q ∈ _ → q ∈ _) => z9; clear z9)
  have hgv := y_hgv
  clear y_hgv
  w_strict (repeat' ((fail_if_success (with_reducible show wpAny _ _ (exec (Stmt.Assign [Expr.Name (Str.ofString "second") _] _ _) _) _ _ _)); (first | (k_unfold; (try dsimp only)) | (k_end; wrow_close) | walk1 | (dsimp only; walk1) | (leave1; try dsimp only))))
  refine cut_set (Str.ofString "second") (fun v l => ∃ P, PtIn l v P ∧ PtOk p P ∧ OnC p c P) (by assumption) (by assumption) ?b4 ?t4
  case b4 =>
    w_strict k_steps
    all_goals exact setTo_ (by assumption) (by assumption) (by tb_start) ⟨_, by assumption, by assumption, by assumption⟩
  repeat (rename Fr _ _ _ _ => z9; clear z9)
  repeat (rename News _ _ _ _ => z9; clear z9)
  rintro v0 h4 tk4 led4 ⟨R0, hR0, okR0, onR0⟩ F4 N4 hs4
  dsimp only
  have y_hgv : (gva, gvObj g0 g1 g2 g3 g4 g5 g6 g7 g8 g9 g10 t0 t1 t2 t3 t4 t5 t6 t7 t8 t9 t10 11) ∈ led4 := by k_mem
  have y_hP : PtIn led4 v1 P := by tb_rel
  clear hgv hP
  repeat (rename (∀ q, q ∈ _ → q ∈ _) => z9; clear z9)
  have hgv := y_hgv
  clear y_hgv
  have hP := y_hP
  clear y_hP
  w_strict (repeat' ((fail_if_success (with_reducible show wpAny _ _ (exec (Stmt.If _ _ _ _) _) _ _ _)); (first | (k_unfold; (try dsimp only)) | (k_end; wrow_close) | walk1 | (dsimp only; walk1) | (leave1; try dsimp only))))
  refine cut_set (Str.ofString "second") (fun v l => ∃ P, PtIn l v P ∧ PtOk p P ∧ OnC p c P) (by assumption) (by assumption) ?b5 ?t5
  case b5 =>
    rcases P with _ | ⟨px, py⟩
    · have hP0 : PtIn led4 .none none := rfl
      obtain rfl : v1 = .none := hP
      w_strict k_steps
      all_goals first
        | (rename _ ∨ _ ∨ _ => hv; rcases hv with rfl | rfl | rfl
           · exact setTo_ (R := fun v l => ∃ P, PtIn l v P ∧ PtOk p P ∧ OnC p c P) (by assumption) (by assumption) (by tb_start) ⟨none, rfl, trivial, trivial⟩
           · exact setTo_ (R := fun v l => ∃ P, PtIn l v P ∧ PtOk p P ∧ OnC p c P) (by assumption) (by assumption) (by tb_start) ⟨none, rfl, trivial, trivial⟩
           · exact setTo_ (R := fun v l => ∃ P, PtIn l v P ∧ PtOk p P ∧ OnC p c P) (by assumption) (by assumption) (by tb_start) ⟨ladd p none none, by tb_rel, ladd_ok hp okP okP, hO.ladd_on okP okP onP onP⟩)
        | exact setTo_same (R := fun v l => ∃ P, PtIn l v P ∧ PtOk p P ∧ OnC p c P) (by assumption) rfl (by assumption) (by tb_start) ⟨R0, by tb_rel, okR0, onR0⟩
    · have hP0 := hP
      obtain ⟨ta, tpx, tpy, ep, mp⟩ := hP0
      subst ep
      have sp1 : Sm 512 px := hp.sm_of okP.1.1 okP.1.2
      have sp2 : Sm 512 py := hp.sm_of okP.2.1 okP.2.2
      w_strict k_steps
      all_goals first
        | (rename _ ∨ _ ∨ _ => hv; rcases hv with rfl | rfl | rfl
           · exact setTo_ (R := fun v l => ∃ P, PtIn l v P ∧ PtOk p P ∧ OnC p c P) (by assumption) (by assumption) (by tb_start) ⟨some (px, py), by tb_rel, okP, onP⟩
           · exact setTo_ (R := fun v l => ∃ P, PtIn l v P ∧ PtOk p P ∧ OnC p c P) (by assumption) (by assumption) (by tb_start) ⟨oppI p (some (px, py)), opp_some (by k_mem), hO.opp_ok okP, hO.opp_on onP⟩
           · exact setTo_ (R := fun v l => ∃ P, PtIn l v P ∧ PtOk p P ∧ OnC p c P) (by assumption) (by assumption) (by tb_start) ⟨ladd p (some (px, py)) (some (px, py)), by tb_rel, ladd_ok hp okP okP, hO.ladd_on okP okP onP onP⟩)
        | exact setTo_same (R := fun v l => ∃ P, PtIn l v P ∧ PtOk p P ∧ OnC p c P) (by assumption) rfl (by assumption) (by tb_start) ⟨R0, by tb_rel, okR0, onR0⟩
  repeat (rename Fr _ _ _ _ => z9; clear z9)
  repeat (rename News _ _ _ _ => z9; clear z9)
  rintro v2 h5 tk5 led5 ⟨R, hR, okR, onR⟩ F5 N5 hs5
  dsimp only
  have y_hgv : (gva, gvObj g0 g1 g2 g3 g4 g5 g6 g7 g8 g9 g10 t0 t1 t2 t3 t4 t5 t6 t7 t8 t9 t10 11) ∈ led5 := by k_mem
  have y_hP : PtIn led5 v1 P := by tb_rel
  clear hR0 okR0 onR0
  clear hgv hP
  repeat (rename (∀ q, q ∈ _ → q ∈ _) => z9; clear z9)
  have hgv := y_hgv
  clear y_hgv
  have hP := y_hP
  clear y_hP
  have sc5 : ScaleOk p (1 + Int.fmod g5 (p - 1)) := scale_of hO
  have sc6 : ScaleOk p (1 + Int.fmod g6 (p - 1)) := scale_of hO
  have sc7 : ScaleOk p (1 + Int.fmod g7 (p - 1)) := scale_of hO
  w_strict (repeat' ((fail_if_success (with_reducible show wpAny _ _ (exec (Stmt.Assign [Expr.Name (Str.ofString "forms") _] _ _) _) _ _ _)); (first | (k_unfold; (try dsimp only)) | (k_end; wrow_close) | walk1 | (dsimp only; walk1) | (leave1; try dsimp only))))
  refine cut_set (Str.ofString "forms") (fun v l => ∃ lf a b i, v = .ref lf ∧ (lf, ({ cls := .type "list", data := .seq #[.ref a, .ref b] i } : Obj)) ∈ l ∧ FormIn l (.ref a) p (lform p P (1 + Int.fmod g5 (p - 1))) ∧ FormIn l (.ref b) p (lform p R (1 + Int.fmod g6 (p - 1)))) (by assumption) (by assumption) ?b6 ?t6
  case b6 =>
    w_strict k_steps
    all_goals exact setTo_ (by assumption) (by assumption) (by tb_start) ⟨_, _, _, _, rfl, by k_mem, by tb_rel, by tb_rel⟩
  repeat (rename Fr _ _ _ _ => z9; clear z9)
  repeat (rename News _ _ _ _ => z9; clear z9)
  rintro _ h6 tk6 led6 ⟨lf, a, b, i6, rfl, mf, hf, hg⟩ F6 N6 hs6
  dsimp only
  have y_hgv : (gva, gvObj g0 g1 g2 g3 g4 g5 g6 g7 g8 g9 g10 t0 t1 t2 t3 t4 t5 t6 t7 t8 t9 t10 11) ∈ led6 := by k_mem
  have y_hP : PtIn led6 v1 P := by tb_rel
  have y_hR : PtIn led6 v2 R := by tb_rel
  clear hgv hP hR
  repeat (rename (∀ q, q ∈ _ → q ∈ _) => z9; clear z9)
  have hgv := y_hgv
  clear y_hgv
  have hP := y_hP
  clear y_hP
  have hR := y_hR
  clear y_hR
  w_strict (repeat' ((fail_if_success (with_reducible show wpAny _ _ (exec (Stmt.Assign [Expr.Name (Str.ofString "before") _] _ _) _) _ _ _)); (first | (k_unfold; (try dsimp only)) | (k_end; wrow_close) | walk1 | (dsimp only; walk1) | (leave1; try dsimp only))))
  refine cut_set (Str.ofString "before") (fun v l => ∃ lb n1 n2 i, v = .ref lb ∧ (lb, ({ cls := .type "list", data := .seq #[n1, n2] i } : Obj)) ∈ l ∧ NumsIn l n1 (lform p P (1 + Int.fmod g5 (p - 1))) ∧ NumsIn l n2 (lform p R (1 + Int.fmod g6 (p - 1)))) (by assumption) (by assumption) ?b7 ?t7
  case b7 =>
    refine LCg.Assign_ListComp_U (F₀ := by k_asm) (by rfl) (by with_unfolding_all rfl) (by with_unfolding_all rfl) (by decide) (by rfl) (by decide) (by rfl) (by rfl) (by rfl) ?_
    w_strict k_steps
    all_goals (refine' LCg.CompSrc.ledger ?a1 ?a2 ?a3 ?a4 ?a5 (fun g' => ?_); (case a1 => k_dflt assumption); (case a2 => k_asm); (case a3 => k_asm); (case a4 => k_mem); (case a5 => exact Nat.le_of_ble_eq_true rfl))
    all_goals (refine comp_nums (two2 (lform p P (1 + Int.fmod g5 (p - 1))) (lform p R (1 + Int.fmod g6 (p - 1)))) (fun l hl => Or.inr ⟨_, hl _ (by k_mem), rfl, _, rfl⟩) ?_ ?_)
    all_goals (try (intro i v I oI C oC D oD m₂ h tk E' news' hi hv hC hx F N off ne hb))
    all_goals (try ((with_reducible show wpAny _ _ _ _ _ _); obtain ⟨z7, rfl, y7⟩ := forms2 (by tb_rel) (by tb_rel) hv; k_steps))
    all_goals (try ((with_reducible show TurnEnd _ _ _ _ _ _ _ _ _ _ _ _ _ _); exact turnEnd_ (by assumption) (by assumption) (by assumption) (by tb_start) (by assumption)))
    all_goals (intro ys led7 hb7 hl7 hr7; obtain ⟨ya, yb, rfl⟩ := two hl7)
    all_goals (have r0 : NumsIn led7 ya (lform p P (1 + Int.fmod g5 (p - 1))) := hr7 0 ya rfl)
    all_goals (have r1 : NumsIn led7 yb (lform p R (1 + Int.fmod g6 (p - 1))) := hr7 1 yb rfl)
    all_goals (clear hr7 hl7; k_steps)
    all_goals exact setTo_ (by assumption) (by assumption) (by tb_start) ⟨_, _, _, _, rfl, by k_mem, by tb_rel, by tb_rel⟩
  repeat (rename Fr _ _ _ _ => z9; clear z9)
  repeat (rename News _ _ _ _ => z9; clear z9)
  rintro _ h7 tk7 led7 ⟨lb, n1, n2, i7, rfl, mb9, hn1, hn2⟩ F7 N7 hs7
  dsimp only
  have y_hgv : (gva, gvObj g0 g1 g2 g3 g4 g5 g6 g7 g8 g9 g10 t0 t1 t2 t3 t4 t5 t6 t7 t8 t9 t10 11) ∈ led7 := by k_mem
  have y_hP : PtIn led7 v1 P := by tb_rel
  have y_hR : PtIn led7 v2 R := by tb_rel
  have y_mf : (lf, ({ cls := .type "list", data := .seq #[.ref a, .ref b] i6 } : Obj)) ∈ led7 := by k_mem
  have y_hf : FormIn led7 (.ref a) p (lform p P (1 + Int.fmod g5 (p - 1))) := by tb_rel
  have y_hg : FormIn led7 (.ref b) p (lform p R (1 + Int.fmod g6 (p - 1))) := by tb_rel
  clear hgv hP hR mf hf hg
  repeat (rename (∀ q, q ∈ _ → q ∈ _) => z9; clear z9)
  have hgv := y_hgv
  clear y_hgv
  have hP := y_hP
  clear y_hP
  have hR := y_hR
  clear y_hR
  have mf := y_mf
  clear y_mf
  have hf := y_hf
  clear y_hf
  have hg := y_hg
  clear y_hg
  w_strict (repeat' ((fail_if_success (with_reducible show wpAny _ _ (exec (Stmt.Assign [Expr.Name (Str.ofString "strange") _] _ _) _) _ _ _)); (first | (k_unfold; (try dsimp only)) | (k_end; wrow_close) | walk1 | (dsimp only; walk1) | (leave1; try dsimp only))))
  refine cut_set (Str.ofString "strange") (fun v l => ∃ a q, v = .ref a ∧ FormIn l v p q ∧ q ≠ (0, 0, 0)) (by assumption) (by assumption) ?b8 ?t8
  case b8 =>
    w_strict k_steps
    all_goals exact setTo_ (R := fun v l => ∃ a q, v = .ref a ∧ FormIn l v p q ∧ q ≠ (0, 0, 0)) (by assumption) (by assumption) (by tb_start) ⟨_, _, rfl, by assumption, by assumption⟩
  repeat (rename Fr _ _ _ _ => z9; clear z9)
  repeat (rename News _ _ _ _ => z9; clear z9)
  rintro _ h8 tk8 led8 ⟨sa, s0, rfl, hs0, ns0⟩ F8 N8 hs8
  dsimp only
  have y_hgv : (gva, gvObj g0 g1 g2 g3 g4 g5 g6 g7 g8 g9 g10 t0 t1 t2 t3 t4 t5 t6 t7 t8 t9 t10 11) ∈ led8 := by k_mem
  have y_hP : PtIn led8 v1 P := by tb_rel
  have y_hR : PtIn led8 v2 R := by tb_rel
  have y_mf : (lf, ({ cls := .type "list", data := .seq #[.ref a, .ref b] i6 } : Obj)) ∈ led8 := by k_mem
  have y_hf : FormIn led8 (.ref a) p (lform p P (1 + Int.fmod g5 (p - 1))) := by tb_rel
  have y_hg : FormIn led8 (.ref b) p (lform p R (1 + Int.fmod g6 (p - 1))) := by tb_rel
  have y_mb9 : (lb, ({ cls := .type "list", data := .seq #[n1, n2] i7 } : Obj)) ∈ led8 := by k_mem
  have y_hn1 : NumsIn led8 n1 (lform p P (1 + Int.fmod g5 (p - 1))) := by tb_rel
  have y_hn2 : NumsIn led8 n2 (lform p R (1 + Int.fmod g6 (p - 1))) := by tb_rel
  clear hgv hP hR mf hf hg mb9 hn1 hn2
  repeat (rename (∀ q, q ∈ _ → q ∈ _) => z9; clear z9)
  have hgv := y_hgv
  clear y_hgv
  have hP := y_hP
  clear y_hP
  have hR := y_hR
  clear y_hR
  have mf := y_mf
  clear y_mf
  have hf := y_hf
  clear y_hf
  have hg := y_hg
  clear y_hg
  have mb9 := y_mb9
  clear y_mb9
  have hn1 := y_hn1
  clear y_hn1
  have hn2 := y_hn2
  clear y_hn2
  w_strict (repeat' ((fail_if_success (with_reducible show wpAny _ _ (exec (Stmt.If _ _ _ _) _) _ _ _)); (first | (k_unfold; (try dsimp only)) | (k_end; wrow_close) | walk1 | (dsimp only; walk1) | (leave1; try dsimp only))))
  refine cut_set (Str.ofString "strange") (fun v l => ∃ a q, v = .ref a ∧ FormIn l v p q ∧ q ≠ (0, 0, 0)) (by assumption) (by assumption) ?b9 ?t9
  case b9 =>
    w_strict k_steps
    all_goals first
      | exact setTo_ (R := fun v l => ∃ a q, v = .ref a ∧ FormIn l v p q ∧ q ≠ (0, 0, 0)) (by assumption) (by assumption) (by tb_start) ⟨_, _, rfl, by assumption, hO.form_ne sc7.2⟩
      | exact setTo_same (R := fun v l => ∃ a q, v = .ref a ∧ FormIn l v p q ∧ q ≠ (0, 0, 0)) (by assumption) rfl (by assumption) (by tb_start) ⟨sa, s0, rfl, by tb_rel, ns0⟩
  repeat (rename Fr _ _ _ _ => z9; clear z9)
  repeat (rename News _ _ _ _ => z9; clear z9)
  rintro _ h9 tk9 led9 ⟨st, q, rfl, hq, nq⟩ F9 N9 hs9
  dsimp only
  have y_hgv : (gva, gvObj g0 g1 g2 g3 g4 g5 g6 g7 g8 g9 g10 t0 t1 t2 t3 t4 t5 t6 t7 t8 t9 t10 11) ∈ led9 := by k_mem
  have y_hP : PtIn led9 v1 P := by tb_rel
  have y_hR : PtIn led9 v2 R := by tb_rel
  have y_mf : (lf, ({ cls := .type "list", data := .seq #[.ref a, .ref b] i6 } : Obj)) ∈ led9 := by k_mem
  have y_hf : FormIn led9 (.ref a) p (lform p P (1 + Int.fmod g5 (p - 1))) := by tb_rel
  have y_hg : FormIn led9 (.ref b) p (lform p R (1 + Int.fmod g6 (p - 1))) := by tb_rel
  have y_mb9 : (lb, ({ cls := .type "list", data := .seq #[n1, n2] i7 } : Obj)) ∈ led9 := by k_mem
  have y_hn1 : NumsIn led9 n1 (lform p P (1 + Int.fmod g5 (p - 1))) := by tb_rel
  have y_hn2 : NumsIn led9 n2 (lform p R (1 + Int.fmod g6 (p - 1))) := by tb_rel
  clear hs0 ns0
  clear hgv hP hR mf hf hg mb9 hn1 hn2
  repeat (rename (∀ q, q ∈ _ → q ∈ _) => z9; clear z9)
  have hgv := y_hgv
  clear y_hgv
  have hP := y_hP
  clear y_hP
  have hR := y_hR
  clear y_hR
  have mf := y_mf
  clear y_mf
  have hf := y_hf
  clear y_hf
  have hg := y_hg
  clear y_hg
  have mb9 := y_mb9
  clear y_mb9
  have hn1 := y_hn1
  clear y_hn1
  have hn2 := y_hn2
  clear y_hn2
  w_strict (repeat' ((fail_if_success (with_reducible show wpAny _ _ (exec (Stmt.Assign [Expr.Name (Str.ofString "number") _] _ _) _) _ _ _)); (first | (k_unfold; (try dsimp only)) | (k_end; wrow_close) | walk1 | (dsimp only; walk1) | (leave1; try dsimp only))))
  refine cut_set (Str.ofString "number") (fun v _ => ∃ n t, v = .int n t ∧ 0 ≤ n ∧ n < 2 ^ 20) (by assumption) (by assumption) ?b10 ?t10
  case b10 =>
    w_strict k_steps
    all_goals exact setTo_ (by assumption) (by assumption) (by tb_start) ⟨_, _, rfl, (fm_rng (by decide)).1, (fm_rng (by decide)).2⟩
  repeat (rename Fr _ _ _ _ => z9; clear z9)
  repeat (rename News _ _ _ _ => z9; clear z9)
  rintro _ h10 tk10 led10 ⟨n, tn, rfl, nn0, nn1⟩ F10 N10 hs10
  dsimp only
  have y_hgv : (gva, gvObj g0 g1 g2 g3 g4 g5 g6 g7 g8 g9 g10 t0 t1 t2 t3 t4 t5 t6 t7 t8 t9 t10 11) ∈ led10 := by k_mem
  have y_hP : PtIn led10 v1 P := by tb_rel
  have y_hR : PtIn led10 v2 R := by tb_rel
  have y_mf : (lf, ({ cls := .type "list", data := .seq #[.ref a, .ref b] i6 } : Obj)) ∈ led10 := by k_mem
  have y_hf : FormIn led10 (.ref a) p (lform p P (1 + Int.fmod g5 (p - 1))) := by tb_rel
  have y_hg : FormIn led10 (.ref b) p (lform p R (1 + Int.fmod g6 (p - 1))) := by tb_rel
  have y_mb9 : (lb, ({ cls := .type "list", data := .seq #[n1, n2] i7 } : Obj)) ∈ led10 := by k_mem
  have y_hn1 : NumsIn led10 n1 (lform p P (1 + Int.fmod g5 (p - 1))) := by tb_rel
  have y_hn2 : NumsIn led10 n2 (lform p R (1 + Int.fmod g6 (p - 1))) := by tb_rel
  have y_hq : FormIn led10 (.ref st) p q := by tb_rel
  clear hgv hP hR mf hf hg mb9 hn1 hn2 hq
  repeat (rename (∀ q, q ∈ _ → q ∈ _) => z9; clear z9)
  have hgv := y_hgv
  clear y_hgv
  have hP := y_hP
  clear y_hP
  have hR := y_hR
  clear y_hR
  have mf := y_mf
  clear y_mf
  have hf := y_hf
  clear y_hf
  have hg := y_hg
  clear y_hg
  have mb9 := y_mb9
  clear y_mb9
  have hn1 := y_hn1
  clear y_hn1
  have hn2 := y_hn2
  clear y_hn2
  have hq := y_hq
  clear y_hq
  have HR : Right p (c % p) P R (lform p P (1 + Int.fmod g5 (p - 1))) (lform p R (1 + Int.fmod g6 (p - 1))) q n := by
    rw [Int.emod_eq_of_lt c0' c1]
    exact hO.right c0 c1 okP okR onP onR sc5.2 sc6.2 hq.inR nq nn0 nn1
  w_strict (repeat' ((fail_if_success (with_reducible show wpAny _ _ (exec (Stmt.If _ _ _ _) _) _ _ _)); (first | (k_unfold; (try dsimp only)) | (k_end; wrow_close) | walk1 | (dsimp only; walk1) | (leave1; try dsimp only))))
  refine cut_same (by assumption) (by assumption) ?b11 ?t11
  case b11 =>
    w_strict k_steps
    all_goals exact same_ (by assumption) (by assumption) (by tb_start)
  repeat (rename Fr _ _ _ _ => z9; clear z9)
  repeat (rename News _ _ _ _ => z9; clear z9)
  intro h11 tk11 led11 F11 N11 hs11
  dsimp only
  have y_mf : (lf, ({ cls := .type "list", data := .seq #[.ref a, .ref b] i6 } : Obj)) ∈ led11 := by k_mem
  have y_hf : FormIn led11 (.ref a) p (lform p P (1 + Int.fmod g5 (p - 1))) := by tb_rel
  have y_hg : FormIn led11 (.ref b) p (lform p R (1 + Int.fmod g6 (p - 1))) := by tb_rel
  have y_mb9 : (lb, ({ cls := .type "list", data := .seq #[n1, n2] i7 } : Obj)) ∈ led11 := by k_mem
  have y_hn1 : NumsIn led11 n1 (lform p P (1 + Int.fmod g5 (p - 1))) := by tb_rel
  have y_hn2 : NumsIn led11 n2 (lform p R (1 + Int.fmod g6 (p - 1))) := by tb_rel
  clear hgv hP hR hq
  clear mf hf hg mb9 hn1 hn2
  repeat (rename (∀ q, q ∈ _ → q ∈ _) => z9; clear z9)
  have mf := y_mf
  clear y_mf
  have hf := y_hf
  clear y_hf
  have hg := y_hg
  clear y_hg
  have mb9 := y_mb9
  clear y_mb9
  have hn1 := y_hn1
  clear y_hn1
  have hn2 := y_hn2
  clear y_hn2
  w_strict (repeat' ((fail_if_success (with_reducible show wpAny _ _ (eval (Expr.ListComp _ _ _ _) _) _ _ _)); (first | (k_unfold; (try dsimp only)) | (k_end; wrow_close) | walk1 | (dsimp only; walk1) | (leave1; try dsimp only))))
  all_goals (refine LCg.ListComp_U (F₀ := by k_asm) (by with_unfolding_all rfl) (by decide) (by rfl) (by decide) (by rfl) ?_)
  all_goals w_strict k_steps
  all_goals (refine' LCg.CompSrc.ledger ?a1 ?a2 ?a3 ?a4 ?a5 (fun g' => ?_); (case a1 => k_dflt assumption); (case a2 => k_asm); (case a3 => k_asm); (case a4 => k_mem); (case a5 => exact Nat.le_of_ble_eq_true rfl))
  all_goals (refine comp_nums (two2 (lform p P (1 + Int.fmod g5 (p - 1))) (lform p R (1 + Int.fmod g6 (p - 1)))) (fun l hl => Or.inr ⟨_, hl _ (by k_mem), rfl, _, rfl⟩) ?_ ?_)
  all_goals (try (intro i v I oI C oC D oD m₂ h tk E' news' hi hv hC hx F N off ne hb))
  all_goals (try ((with_reducible show wpAny _ _ _ _ _ _); obtain ⟨z7, rfl, y7⟩ := forms2 (by tb_rel) (by tb_rel) hv; k_steps))
  all_goals (try ((with_reducible show TurnEnd _ _ _ _ _ _ _ _ _ _ _ _ _ _); exact turnEnd_ (by assumption) (by assumption) (by assumption) (by tb_start) (by assumption)))
  all_goals (intro ys led7 hb7 hl7 hr7; obtain ⟨ya, yb, rfl⟩ := two hl7)
  all_goals (have r0 : NumsIn led7 ya (lform p P (1 + Int.fmod g5 (p - 1))) := hr7 0 ya rfl)
  all_goals (have r1 : NumsIn led7 yb (lform p R (1 + Int.fmod g6 (p - 1))) := hr7 1 yb rfl)
  all_goals (clear hr7 hl7; k_steps)
  all_goals exact retTrue_ (by assumption)
)

end EcLaw
theorem PySem.Challenge.cw_lh0030_01_holds : PySem.Challenge.rw_lh0030_01.Holds :=
  EcLaw.fin0
