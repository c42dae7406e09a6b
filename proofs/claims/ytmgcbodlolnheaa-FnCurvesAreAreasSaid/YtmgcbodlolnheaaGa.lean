/- Slopes of convex functions; a number kept within 0 and 1, and what it is in the mean. No program is in sight. -/
import Derived.Test.YtmgcbodlolnheaaFc
namespace Go.Proofs.Ytmgcbodlolnheaa

theorem rtot (a b : Rat) : a ≤ b ∨ b ≤ a := Rat.le_total
theorem rne {a b : Rat} (h : a ≠ b) : a < b ∨ b < a := by
  rcases rtot a b with k | k
  · left; grind
  · right; grind
theorem mul_le_mul_l {a b c : Rat} (h : a ≤ b) (hc : 0 ≤ c) : c * a ≤ c * b := Rat.mul_le_mul_of_nonneg_left h hc
theorem mul_le_mul_r {a b c : Rat} (h : a ≤ b) (hc : 0 ≤ c) : a * c ≤ b * c := Rat.mul_le_mul_of_nonneg_right h hc
theorem mul_nn {a b : Rat} (h : 0 ≤ a) (k : 0 ≤ b) : 0 ≤ a * b := Rat.mul_nonneg h k
theorem le_of_mul_le {a b c : Rat} (hc : 0 < c) (h : a * c ≤ b * c) : a ≤ b := by
  rcases rtot a b with h1 | h1
  · exact h1
  · have h2 := mul_le_mul_r h1 (Rat.le_of_lt hc)
    have h3 : a * c = b * c := Rat.le_antisymm h h2
    have := cancel_right hc h3
    rw [this]; exact Rat.le_refl
theorem div_mul_self {a b : Rat} (hb : b ≠ 0) : a / b * b = a := Rat.div_mul_cancel hb
theorem sq_nn (a : Rat) : 0 ≤ a * a := by
  rcases rtot 0 a with h | h
  · exact mul_nn h h
  · have := mul_nn (show 0 ≤ -a by grind) (show 0 ≤ -a by grind); grind

/-- The line through (x, f x) with slope g x lies below f. -/
def Sub (f g : Rat → Rat) : Prop := ∀ x y, f x + g x * (y - x) ≤ f y

def slope (f g : Rat → Rat) (u v : Rat) : Rat := if u = v then g u else (f v - f u) / (v - u)

section
variable {f g : Rat → Rat}

theorem slope_mul (u v : Rat) : slope f g u v * (v - u) = f v - f u := by
  unfold slope
  split
  · next h => subst h; grind
  · next h => exact div_mul_self (by grind)

theorem slope_self (u : Rat) : slope f g u u = g u := by unfold slope; rw [if_pos rfl]

theorem slope_unique {u v s : Rat} (h : u ≠ v) (hs : s * (v - u) = f v - f u) : slope f g u v = s := by
  have h1 := slope_mul (f := f) (g := g) u v
  rcases rne h with hl | hl
  · exact cancel_right (c := v - u) (by grind) (by rw [h1, hs])
  · exact cancel_right (c := u - v) (by grind) (by grind)

theorem slope_symm (u v : Rat) : slope f g u v = slope f g v u := by
  by_cases h : u = v
  · rw [h]
  · exact slope_unique h (by have := slope_mul (f := f) (g := g) v u; grind)

theorem slope_bounds (h : Sub f g) {u v : Rat} (huv : u ≤ v) : g u ≤ slope f g u v ∧ slope f g u v ≤ g v := by
  by_cases e : u = v
  · subst e; rw [slope_self]; exact ⟨Rat.le_refl, Rat.le_refl⟩
  · have hp : 0 < v - u := by grind
    have hm := slope_mul (f := f) (g := g) u v
    have h1 := h u v
    have h2 := h v u
    exact ⟨le_of_mul_le hp (by grind), le_of_mul_le hp (by grind)⟩

theorem slope_right (h : Sub f g) {u v w : Rat} (hvw : v ≤ w) : slope f g u v ≤ slope f g u w := by
  by_cases e : v = w
  · subst e; exact Rat.le_refl
  have hlt : v < w := by grind
  rcases rtot u v with h1 | h1
  · -- u ≤ v < w
    have a := (slope_bounds h h1).2
    have b := (slope_bounds h hvw).1
    have m1 := slope_mul (f := f) (g := g) u v
    have m2 := slope_mul (f := f) (g := g) u w
    have m3 := slope_mul (f := f) (g := g) v w
    refine le_of_mul_le (c := w - u) (by grind) ?_
    have hk := mul_le_mul_r (Rat.le_trans a b) (show 0 ≤ w - v by grind)
    grind
  · rcases rtot u w with h2 | h2
    · -- v ≤ u ≤ w
      rw [slope_symm u v]
      exact Rat.le_trans (slope_bounds h h1).2 (slope_bounds h h2).1
    · -- v < w ≤ u
      rw [slope_symm u v, slope_symm u w]
      have a := (slope_bounds h hvw).2
      have b := (slope_bounds h h2).1
      have m1 := slope_mul (f := f) (g := g) v u
      have m2 := slope_mul (f := f) (g := g) w u
      have m3 := slope_mul (f := f) (g := g) v w
      refine le_of_mul_le (c := u - v) (by grind) ?_
      have hk := mul_le_mul_r (Rat.le_trans a b) (show 0 ≤ w - v by grind)
      grind

theorem slope_mono (h : Sub f g) {u v u' v' : Rat} (hu : u ≤ u') (hv : v ≤ v') : slope f g u v ≤ slope f g u' v' := by
  refine Rat.le_trans (slope_right h hv) ?_
  rw [slope_symm u v', slope_symm u' v']
  exact slope_right h hu
end

/-- A number kept within 0 and 1. -/
def cl (x : Rat) : Rat := if x ≤ 0 then 0 else if x ≤ 1 then x else 1
theorem cl_nn (x : Rat) : 0 ≤ cl x := by unfold cl; grind
theorem cl_le (x : Rat) : cl x ≤ 1 := by unfold cl; grind
theorem cl_low {x : Rat} (h : x ≤ 0) : cl x = 0 := by unfold cl; grind
theorem cl_high {x : Rat} (h : 1 ≤ x) : cl x = 1 := by unfold cl; grind
theorem cl_mid {x : Rat} (h : 0 ≤ x) (k : x ≤ 1) : cl x = x := by unfold cl; grind
theorem cl_mono {x y : Rat} (h : x ≤ y) : cl x ≤ cl y := by unfold cl; grind
theorem cl_lip {x y : Rat} (h : x ≤ y) : cl y - cl x ≤ y - x := by unfold cl; grind
theorem cl_proj (x c : Rat) (h : 0 ≤ c) (k : c ≤ 1) : (x - cl x) * (c - cl x) ≤ 0 := by
  by_cases h0 : x ≤ 0
  · rw [cl_low h0]; have := mul_nn (show 0 ≤ -x by grind) h; grind
  · by_cases h1 : x ≤ 1
    · rw [cl_mid (by grind) h1]; grind
    · rw [cl_high (by grind)]; have := mul_nn (show 0 ≤ x - 1 by grind) (show 0 ≤ 1 - c by grind); grind

/-- What cl is the slope of. -/
def bi (x : Rat) : Rat := cl x * x - cl x * cl x / 2
/-- And what is left of x. -/
def ci (x : Rat) : Rat := (x - cl x) * (x - cl x) / 2

theorem bi_sub : Sub bi cl := by
  intro x y
  have h1 := cl_proj y (cl x) (cl_nn x) (cl_le x)
  have h2 := sq_nn (cl y - cl x)
  unfold bi
  grind
theorem ci_sub : Sub ci (fun x => x - cl x) := by
  intro x y
  have h1 := cl_proj x (cl y) (cl_nn y) (cl_le y)
  have h2 := sq_nn ((y - cl y) - (x - cl x))
  unfold ci
  grind

/-- The mean of cl from u to v. -/
def mean (u v : Rat) : Rat := slope bi cl u v
theorem mean_mul (u v : Rat) : mean u v * (v - u) = bi v - bi u := slope_mul u v
theorem mean_self (u : Rat) : mean u u = cl u := slope_self u
theorem mean_symm (u v : Rat) : mean u v = mean v u := slope_symm u v
theorem mean_bounds {u v : Rat} (h : u ≤ v) : cl u ≤ mean u v ∧ mean u v ≤ cl v := slope_bounds bi_sub h
theorem mean_mono {u v u' v' : Rat} (hu : u ≤ u') (hv : v ≤ v') : mean u v ≤ mean u' v' := slope_mono bi_sub hu hv
theorem mean_lip2 {u v u' v' : Rat} (hu : u ≤ u') (hv : v ≤ v') : mean u' v' - mean u v ≤ ((u' - u) + (v' - v)) / 2 := by
  have key : ∀ a b : Rat, slope ci (fun x => x - cl x) a b = (a + b) / 2 - mean a b := by
    intro a b
    by_cases e : a = b
    · subst e; rw [slope_self, mean_self]; grind
    · refine slope_unique e ?_
      have h1 := mean_mul a b
      have h2 : ∀ x, ci x = x * x / 2 - bi x := by intro x; unfold ci bi; grind
      rw [h2, h2]; grind
  have := slope_mono ci_sub hu hv
  rw [key, key] at this
  grind
theorem mean_nn (u v : Rat) : 0 ≤ mean u v := by
  rcases rtot u v with h | h
  · exact Rat.le_trans (cl_nn u) (mean_bounds h).1
  · rw [mean_symm]; exact Rat.le_trans (cl_nn v) (mean_bounds h).1
theorem mean_le (u v : Rat) : mean u v ≤ 1 := by
  rcases rtot u v with h | h
  · exact Rat.le_trans (mean_bounds h).2 (cl_le v)
  · rw [mean_symm]; exact Rat.le_trans (mean_bounds h).2 (cl_le u)
/-- Both ends moved by at most d. -/
theorem mean_lip {u v u' v' d : Rat} (hu : ab (u' - u) ≤ d) (hv : ab (v' - v) ≤ d) : ab (mean u' v' - mean u v) ≤ d := by
  rw [ab_le] at hu hv ⊢
  have h1 := mean_lip2 (u := u) (v := v) (u' := u + d) (v' := v + d) (by grind) (by grind)
  have h2 := mean_mono (u := u') (v := v') (u' := u + d) (v' := v + d) (by grind) (by grind)
  have h3 := mean_lip2 (u := u - d) (v := v - d) (u' := u) (v' := v) (by grind) (by grind)
  have h4 := mean_mono (u := u - d) (v := v - d) (u' := u') (v' := v') (by grind) (by grind)
  grind
end Go.Proofs.Ytmgcbodlolnheaa
