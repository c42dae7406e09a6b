/- An edge's row, in numbers: its bumps are as they should be. No program is in sight. -/
import Derived.Test.YtmgcbodlolnheaaRh
namespace Go.Proofs.Ytmgcbodlolnheaa
open Ieee

theorem p2_m1 : p2 (-1) = 1 / 2 := by have := p2_negNat 1; exact this.trans (by decide +kernel)
theorem p2_m99_le : p2 (-99) ≤ u32 := by rw [← p2_m24]; exact p2_mono (by omega)

/-- A multiple of u below a whole number is a unit below. -/
theorem unit_below {k N : Int} (h : (k : Rat) * u32 < N) : u32 ≤ N - k * u32 := by
  have hu := u32_pos
  have hN : (N : Rat) = ((N * 16777216 : Int) : Rat) * u32 := by rw [Rat.intCast_mul]; have := int24; grind
  rw [hN] at h ⊢
  have h1 : (k : Rat) < ((N * 16777216 : Int) : Rat) := Rat.lt_of_mul_lt_mul_right h (Rat.le_of_lt hu)
  have h2 := Rat.intCast_lt_intCast.1 h1
  have h3 : ((k + 1 : Int) : Rat) ≤ ((N * 16777216 : Int) : Rat) := Rat.intCast_le_intCast.2 (by omega)
  rw [Rat.intCast_add] at h3
  have h4 : (k : Rat) + 1 ≤ ((N * 16777216 : Int) : Rat) := h3
  have := mul_le_mul_r h4 (Rat.le_of_lt hu)
  grind

theorem gap_below {x : Nat} {a : Rat} {N : Int} (hx : F32 x a) (h : a < N) (hN : 1 ≤ N) : u32 ≤ N - a := by
  have hN' : ((1 : Int) : Rat) ≤ N := Rat.intCast_le_intCast.2 hN
  have hN1 : (1 : Rat) ≤ N := hN'
  have hs := u32_small
  rcases rtot a (1 / 2) with ha | ha
  · grind
  · obtain ⟨k, hk⟩ := hx.grain (e := -1) (by rw [p2_m1, ab_of_nonneg (by grind)]; exact ha)
    rw [fb32, show (-1 : Int) - ((23 : Nat) : Int) = -24 by omega, p2_m24] at hk
    rw [hk] at h ⊢
    exact unit_below h

theorem gap_above {x : Nat} {a : Rat} {N : Int} (hx : F32 x a) (h : (N : Rat) < a) (hN : N ≤ -1) : u32 ≤ a - N := by
  have hN' : (N : Rat) ≤ ((-1 : Int) : Rat) := Rat.intCast_le_intCast.2 hN
  have hN1 : (N : Rat) ≤ -1 := hN'
  have hs := u32_small
  rcases rtot (-(1 / 2)) a with ha | ha
  · grind
  · obtain ⟨k, hk⟩ := hx.grain (e := -1) (by rw [p2_m1, ab_of_nonpos (by grind)]; grind)
    rw [fb32, show (-1 : Int) - ((23 : Nat) : Int) = -24 by omega, p2_m24] at hk
    have h1 : ((-k : Int) : Rat) * u32 < ((-N : Int) : Rat) := by rw [Rat.intCast_neg, Rat.intCast_neg]; grind
    have := unit_below h1
    rw [Rat.intCast_neg, Rat.intCast_neg] at this
    grind

theorem far_row {x0 x1 d : Nat} {dv a c : Rat} {z y : Int} (hx0 : F32 x0 a) (hx1 : F32 x1 c) (hd : F32 d dv) (bd : ab dv ≤ 101 / 100) (ba : ab a ≤ 130) (bc : ab c ≤ 130)
    (hz0 : (z : Rat) ≤ a) (hz1 : a < z + 1) (hy0 : (y : Rat) - 1 < c) (hy1 : c ≤ y) (hzy : z + 2 ≤ y) (hz : a < 0 → 0 < c → p2 (-99) ≤ c - a) :
    ∃ L, RowOk dv a c L ∧ ∀ n base W b, rowFar n base W z y d x0 x1 b = bumps n base W L b := by
  have hzq : ((z + 2 : Int) : Rat) ≤ y := Rat.intCast_le_intCast.2 hzy
  rw [Rat.intCast_add] at hzq
  have hzq' : (z : Rat) + 2 ≤ y := hzq
  have e1 : ((z + 1 : Int) : Rat) = z + 1 := by rw [Rat.intCast_add]; rfl
  have hm := p2_m99_le
  have gap : p2 (-99) ≤ c - a := by
    by_cases h1 : 1 ≤ z + 1
    · have := gap_below (N := z + 1) hx0 (by rw [e1]; exact hz1) h1
      rw [e1] at this; grind
    · by_cases h2 : z + 1 ≤ -1
      · have := gap_above (N := z + 1) hx1 (by rw [e1]; grind) h2
        rw [e1] at this; grind
      · have h0 : z = -1 := by omega
        have hz' : (z : Rat) = -1 := by rw [h0]; rfl
        exact hz (by grind) (by grind)
  have hg := p2_pos (-99)
  have hd0 := div_mul_self (a := 1) (b := c - a) (by grind)
  have hS0 : 0 ≤ 1 / (c - a) := le_of_mul_le (c := c - a) (by grind) (by grind)
  obtain ⟨sw, fw, a0w, amw, sv, fv, a0, am, H⟩ := far_head hx0 hx1 ba bc hz0 hz1 hy0 hy1 hzy gap hd0
  by_cases h2 : y = z + 2
  · exact far_two H hd bd hz0 hz1 hy0 hy1 hd0 hS0 h2
  · exact far_more H hd bd ba bc hz0 hz1 hy0 hy1 hd0 hS0 (by omega)

theorem row_write {d x xN : Nat} {dv xv xNv : Rat} (hd : F32 d dv) (hx : F32 x xv) (hN : F32 xN xNv) (bd : ab dv ≤ 101 / 100) (bx : ab xv ≤ 130) (bN : ab xNv ≤ 130)
    (hz : (xv < 0 → 0 < xNv → p2 (-99) ≤ xNv - xv) ∧ (xNv < 0 → 0 < xv → p2 (-99) ≤ xv - xNv)) :
    ∃ L, RowOk dv (if xNv < xv then xNv else xv) (if xNv < xv then xv else xNv) L ∧ ∀ n base W b, rowWrite n base W d x xN b = bumps n base W L b := by
  have key : ∀ (x0 x1 : Nat) (a c : Rat), F32 x0 a → F32 x1 c → ab a ≤ 130 → ab c ≤ 130 → (a < 0 → 0 < c → p2 (-99) ≤ c - a) → a ≤ c → 
      (∀ z : Int, (z : Rat) ≤ a → c ≤ z + 1 → ∃ L, RowOk dv a c L ∧ ∀ n base W b, rowNear n base W z d x xN b = bumps n base W L b) → 
      ∃ L, RowOk dv a c L ∧ ∀ n base W b, ((floorI x0).bind fun x0i => (ceilI x1).bind fun x1i => if x1i ≤ x0i + 1 then rowNear n base W x0i d x xN b else rowFar n base W x0i x1i d x0 x1 b) = bumps n base W L b := by
    intro x0 x1 a c h0 h1 b0 b1 hg hac near
    obtain ⟨f1, f2⟩ := floor_bounds a
    obtain ⟨c1, c2⟩ := ceil_bounds c
    rw [floorI_ok h0 (Rat.le_trans b0 (by decide +kernel)), ceilI_ok h1 (Rat.le_trans b1 (by decide +kernel))]
    simp only [Option.bind_some]
    generalize a.floor = z at *
    generalize c.ceil = y at *
    by_cases hzy : y ≤ z + 1
    · have hq : (y : Rat) ≤ ((z + 1 : Int) : Rat) := Rat.intCast_le_intCast.2 hzy
      rw [Rat.intCast_add] at hq
      have hq' : (y : Rat) ≤ z + 1 := hq
      simp only [if_pos hzy]
      exact near z f1 (by grind)
    · simp only [if_neg hzy]
      exact far_row h0 h1 hd bd b0 b1 f1 f2 c1 c2 (by omega) hg
  unfold rowWrite
  rw [gt32_eq hx hN]
  by_cases h : xNv < xv
  · simp only [h, decide_true, if_true]
    refine key xN x xNv xv hN hx bN bx hz.2 (by grind) ?_
    intro z h1 h2
    have := row_near hd hx hN bd bx bN (z := z) (by grind) (by grind) (by grind) (by grind)
    simp only [h, if_true] at this
    exact this
  · simp only [h, decide_false, if_false, Bool.false_eq_true]
    refine key x xN xv xNv hx hN bx bN hz.1 (by grind) ?_
    intro z h1 h2
    have := row_near hd hx hN bd bx bN (z := z) (by grind) (by grind) (by grind) (by grind)
    simp only [h, if_false] at this
    exact this
end Go.Proofs.Ytmgcbodlolnheaa
