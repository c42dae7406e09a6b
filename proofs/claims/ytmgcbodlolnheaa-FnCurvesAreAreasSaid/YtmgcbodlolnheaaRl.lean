/- The rows of an edge: numbers that are near nothing. No program is in sight. -/
import Derived.Test.YtmgcbodlolnheaaRk
namespace Go.Proofs.Ytmgcbodlolnheaa
open Ieee

def Mult (e : Int) (x : Rat) : Prop := ∃ k : Int, x = k * p2 e

theorem Mult.down {e g : Int} {x : Rat} (h : Mult e x) (hge : g ≤ e) : Mult g x := by
  obtain ⟨k, rfl⟩ := h
  refine ⟨k * ((2 ^ (e - g).toNat : Nat) : Int), ?_⟩
  rw [p2_split hge, Rat.intCast_mul, Rat.intCast_natCast]; grind
theorem Mult.add {e : Int} {x y : Rat} (h : Mult e x) (k : Mult e y) : Mult e (x + y) := by
  obtain ⟨a, rfl⟩ := h
  obtain ⟨b, rfl⟩ := k
  exact ⟨a + b, by rw [Rat.intCast_add]; grind⟩
theorem Mult.sub {e : Int} {x y : Rat} (h : Mult e x) (k : Mult e y) : Mult e (x - y) := by
  obtain ⟨a, rfl⟩ := h
  obtain ⟨b, rfl⟩ := k
  exact ⟨a - b, by rw [Rat.intCast_sub]; grind⟩
theorem Mult.mul {e g : Int} {x y : Rat} (h : Mult e x) (k : Mult g y) : Mult (e + g) (x * y) := by
  obtain ⟨a, rfl⟩ := h
  obtain ⟨b, rfl⟩ := k
  exact ⟨a * b, by rw [Rat.intCast_mul, p2_add]; grind⟩
theorem Mult.least {e : Int} {x : Rat} (h : Mult e x) (hx : x ≠ 0) : p2 e ≤ ab x := by
  obtain ⟨k, rfl⟩ := h
  have hk : k ≠ 0 := by rintro rfl; apply hx; rw [Rat.intCast_zero]; grind
  rw [ab_mul, ab_int, ab_of_nonneg (Rat.le_of_lt (p2_pos e))]
  have : 1 ≤ k.natAbs := by omega
  have h1 : ((1 : Nat) : Rat) ≤ (k.natAbs : Rat) := Rat.natCast_le_natCast.2 this
  have h2 : (1 : Rat) ≤ k.natAbs := h1
  have := mul_le_mul_r h2 (Rat.le_of_lt (p2_pos e))
  grind

theorem sgn_next {xv pv xNv mv dyv : Rat} (h : 0 ≤ mv * xv) (hdy : 0 ≤ dyv) (r1 : Rounds single (dyv * mv) pv) (r2 : Rounds single (xv + pv) xNv) : 0 ≤ mv * xNv := by
  by_cases h0 : mv = 0
  · rw [h0]; grind
  · rcases rtot 0 mv with hm | hm
    · have hx : 0 ≤ xv := le_of_mul_le (c := mv) (by grind) (by grind)
      have hp := r1.nonneg (mul_nn hdy hm)
      exact mul_nn hm (r2.nonneg (by grind))
    · have hx : 0 ≤ -xv := le_of_mul_le (c := -mv) (by grind) (by grind)
      have hp := r1.nonpos (by have := mul_nn hdy (show 0 ≤ -mv by grind); grind)
      have := r2.nonpos (by grind)
      have := mul_nn (show 0 ≤ -mv by grind) (show 0 ≤ -xNv by grind)
      grind

theorem gap_ok {xv pv xNv mv dyv : Rat} (hI : Mult (-97) xv ∨ 0 ≤ mv * xv) (hdy : 0 ≤ dyv) (r1 : Rounds single (dyv * mv) pv) (r2 : Rounds single (xv + pv) xNv) :
    (xv < 0 → 0 < xNv → p2 (-99) ≤ xNv - xv) ∧ (xNv < 0 → 0 < xv → p2 (-99) ≤ xv - xNv) := by
  have hm : p2 (-99) ≤ p2 (-97) := p2_mono (by omega)
  rcases hI with h | h
  · constructor
    · intro h1 h2
      have := h.least (by grind)
      rw [ab_of_nonpos (by grind)] at this
      grind
    · intro h1 h2
      have := h.least (by grind)
      rw [ab_of_nonneg (by grind)] at this
      grind
  · have hs := sgn_next h hdy r1 r2
    constructor
    · intro h1 h2
      -- mv ≤ 0, so the step is not to the right
      have hm0 : mv ≤ 0 := by
        rcases rtot mv 0 with k | k
        · exact k
        · have := mul_nn k (show 0 ≤ -xv by grind)
          have h3 : mv * xv = 0 := by grind
          rcases Rat.mul_eq_zero.1 h3 with e | e <;> grind
      have hp := r1.nonpos (by have := mul_nn hdy (show 0 ≤ -mv by grind); grind)
      have := r2.nonpos (by grind)
      grind
    · intro h1 h2
      have hm0 : 0 ≤ mv := by
        rcases rtot 0 mv with k | k
        · exact k
        · have := mul_nn (show 0 ≤ -mv by grind) (show 0 ≤ xv by grind)
          have h3 : mv * xv = 0 := by grind
          rcases Rat.mul_eq_zero.1 h3 with e | e <;> grind
      have hp := r1.nonneg (mul_nn hdy hm0)
      have := r2.nonneg (by grind)
      grind

theorem p2_step (e : Int) : p2 (e + 1) = 2 * p2 e := by rw [p2_add, p2_one]; grind

theorem inv_next {x p xN : Nat} {xv pv xNv mv dyv : Rat} (hx : F32 x xv) (hp : F32 p pv) (hN : F32 xN xNv) (hdy : 0 ≤ dyv) (r1 : Rounds single (dyv * mv) pv) (r2 : Rounds single (xv + pv) xNv) (hmk : Mult (-97) mv)
    (hI : Mult (-64) xv ∨ (dyv = 1 ∧ Mult (-97) xv) ∨ 0 ≤ mv * xv) : Mult (-97) xNv ∨ 0 ≤ mv * xNv := by
  have least : single.leastPlace ≤ -97 := by rw [least32]; omega
  rcases hI with h | ⟨hd, h⟩ | h
  · by_cases h0 : xv = 0
    · right; exact sgn_next (by rw [h0]; grind) hdy r1 r2
    · left
      rcases rtot (p2 (-66)) (ab pv) with hc | hc
      · have hg : Mult (-89) pv := by
          have := hp.grain hc
          rwa [fb32, show (-66 : Int) - ((23 : Nat) : Int) = -89 by omega] at this
        exact r2.keeps (-97) least ((h.down (by omega)).add (hg.down (by omega)))
      · have h1 := h.least h0
        have h2 := r2.rel (sum_mult hx hp)
        rw [u32_eq] at h2
        have e1 : p2 (-64) = 4 * p2 (-66) := by rw [show (-64 : Int) = -66 + 1 + 1 by omega, p2_step, p2_step]; grind
        have e2 : p2 (-65) = 2 * p2 (-66) := by rw [show (-65 : Int) = -66 + 1 by omega, p2_step]
        have hP := p2_pos (-66)
        have h3 := ab_sub (xv + pv) pv
        rw [show xv + pv - pv = xv by grind] at h3
        have h4 := ab_sub xNv (xNv - (xv + pv))
        rw [show xNv - (xNv - (xv + pv)) = xv + pv by grind] at h4
        have h5 := mul_le_mul_r u32_small (ab_nonneg (xv + pv))
        have := hN.grain (e := -65) (by rw [e2]; grind)
        rw [fb32, show (-65 : Int) - ((23 : Nat) : Int) = -88 by omega] at this
        exact Mult.down this (by omega)
  · left
    have hpe : Mult (-97) pv := r1.keeps (-97) least (by rw [hd, Rat.one_mul]; exact hmk)
    exact r2.keeps (-97) least (h.add hpe)
  · right; exact sgn_next h hdy r1 r2

/-- How deep an edge is when the row y begins. -/
def hgt (a b : Rat) (y : Int) : Rat := if topR a y < b then topR a y else b

theorem hgt_mono {a b : Rat} {y : Int} : hgt a b y ≤ hgt a b (y + 1) := by
  unfold hgt topR; rw [int_succ]; grind
theorem hgt_le {a b : Rat} {y : Int} (h : a < b) : a ≤ hgt a b y ∧ hgt a b y ≤ b := by unfold hgt topR; grind
theorem hgt_top {a b : Rat} {y : Int} (h : a < b) (hy : (y : Rat) < b) : hgt a b y = topR a y := by unfold hgt topR; grind
theorem hgt_foot {a b : Rat} {y : Int} (hy : a < y + 1) : hgt a b (y + 1) = footR b y := by unfold hgt topR footR; rw [int_succ]; grind
end Go.Proofs.Ytmgcbodlolnheaa
