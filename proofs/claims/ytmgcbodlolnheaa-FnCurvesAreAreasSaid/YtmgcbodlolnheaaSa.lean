/- The reference's sums, in numbers: a side, a trapezoid. No program is in sight. -/
import Derived.Test.YtmgcbodlolnheaaRu
namespace Go.Proofs.Ytmgcbodlolnheaa
open Ieee

theorem u64_pos : 0 < u64 := by decide +kernel
theorem u64_small : u64 ≤ 1 / 9000000000000000 := by decide +kernel
theorem tiny_u64 : tiny64 ≤ u64 / 10000000000000 := Rat.le_trans tiny64_le (by decide +kernel)

section
variable {x y : Nat} {a b B : Rat}
theorem add64B (hx : F64 x a) (hy : F64 y b) (h : ab (a + b) ≤ B) (hB : B ≤ 100000000000000) : ∃ r c, add64 x y = some r ∧ F64 r c ∧ Rounds double (a + b) c ∧ ab (c - (a + b)) ≤ B * u64 := by
  have hu := u64_pos
  obtain ⟨r, c, h1, h2, h3, h4⟩ := f64_add hx hy (Rat.le_trans (Rat.le_trans h hB) (by unfold huge; have := p2_nat 120; rw [show (120 : Int) = ((120 : Nat) : Int) from rfl, this]; decide +kernel))
  refine ⟨r, c, h1, h2, h3, ?_⟩
  have := mul_le_mul_l h (Rat.le_of_lt hu)
  grind
theorem sub64B (hx : F64 x a) (hy : F64 y b) (h : ab (a - b) ≤ B) (hB : B ≤ 100000000000000) : ∃ r c, sub64 x y = some r ∧ F64 r c ∧ Rounds double (a - b) c ∧ ab (c - (a - b)) ≤ u64 * ab (a - b) ∧ ab (c - (a - b)) ≤ B * u64 := by
  have hu := u64_pos
  obtain ⟨r, c, h1, h2, h3, h4⟩ := f64_sub hx hy (Rat.le_trans (Rat.le_trans h hB) (by unfold huge; have := p2_nat 120; rw [show (120 : Int) = ((120 : Nat) : Int) from rfl, this]; decide +kernel))
  refine ⟨r, c, h1, h2, h3, h4, ?_⟩
  have := mul_le_mul_l h (Rat.le_of_lt hu)
  grind
theorem mul64B (hx : F64 x a) (hy : F64 y b) (h : ab (a * b) ≤ B) (hB : B ≤ 100000000000000) : ∃ r c, mul64 x y = some r ∧ F64 r c ∧ Rounds double (a * b) c ∧ ab (c - a * b) ≤ (B + 1) * u64 := by
  have hu := u64_pos
  have ht := tiny_u64
  obtain ⟨r, c, h1, h2, h3, h4⟩ := f64_mul hx hy (Rat.le_trans (Rat.le_trans h hB) (by unfold huge; have := p2_nat 120; rw [show (120 : Int) = ((120 : Nat) : Int) from rfl, this]; decide +kernel))
  refine ⟨r, c, h1, h2, h3, ?_⟩
  have := mul_le_mul_l h (Rat.le_of_lt hu)
  grind
theorem max64_ok (hx : F64 x a) (hy : F64 y b) : ∃ r, max64 x y = some r ∧ F64 r (if a < b then b else a) := by
  unfold max64
  rw [f64_order hx hy]
  by_cases h : a < b
  · rw [if_pos h, if_pos h]; exact ⟨y, rfl, hy⟩
  · rw [if_neg h, if_neg h]
    by_cases e : a = b
    · rw [if_pos e]
      refine ⟨_, rfl, ?_⟩
      split
      · rw [e]; exact hy
      · exact hx
    · rw [if_neg e]; exact ⟨x, rfl, hx⟩
theorem min64_ok (hx : F64 x a) (hy : F64 y b) : ∃ r, min64 x y = some r ∧ F64 r (if a < b then a else b) := by
  unfold min64
  rw [f64_order hx hy]
  by_cases h : a < b
  · rw [if_pos h, if_pos h]; exact ⟨x, rfl, hx⟩
  · rw [if_neg h, if_neg h]
    by_cases e : a = b
    · rw [if_pos e]
      refine ⟨_, rfl, ?_⟩
      split
      · rw [← e]; exact hx
      · exact hy
    · rw [if_neg e]; exact ⟨y, rfl, hy⟩
end

theorem int_ab {n : Int} {C : Nat} (h : n.natAbs ≤ C) : ab (n : Rat) ≤ C := by
  rw [ab_int]; exact_mod_cast h

/-- Where the line is at a height. -/
theorem at_ok {slope y : Nat} {sv k yv : Rat} {x0 y0 : Int} (hs : F64 slope sv) (ks : ab (sv - k) ≤ 3 * u64 * ab k + tiny64) (hy : F64 y yv) (bx : x0.natAbs ≤ 33554432) (b0 : y0.natAbs ≤ 33554432) (by' : ab yv ≤ 33554432)
    (hQ : ab k * ab (yv - y0) ≤ 67108864) : ∃ r v, atP x0 y0 slope y = some r ∧ F64 r v ∧ ab (v - (x0 + k * (yv - y0))) ≤ 1 / 1000 := by
  have hu := u64_pos
  have hul := u64_small
  have ht0 := tiny64_pos
  have htl : tiny64 ≤ 1 / 10000000000000000000000000 := Rat.le_trans tiny64_le (by decide +kernel)
  have fy0 := of64_ok y0 (by omega)
  have fx0 := of64_ok x0 (by omega)
  have ab0 := int_ab b0
  have abx := int_ab bx
  rw [show ((33554432 : Nat) : Rat) = 33554432 from rfl] at ab0 abx
  have bD : ab (yv - y0) ≤ 67108864 := by have := ab_sub yv y0; grind
  obtain ⟨t, tv, e1, f1, _, k1, _⟩ := sub64B hy fy0 bD (by decide +kernel)
  have hk0 := ab_nonneg k
  have hD0 := ab_nonneg (yv - (y0 : Rat))
  have hQ0 := mul_nn hk0 hD0
  have bs : ab sv ≤ 101 / 100 * ab k + 1 / 100000000000000000000 := by
    have := ab_add (sv - k) k
    rw [show sv - k + k = sv by grind] at this
    have := mul_le_mul_r hul hk0
    grind
  have d1 : ab (sv * (tv - (yv - y0))) ≤ 1 / 10000 := by
    have h1 := ab_mul_le bs k1
    have h2 := mul_le_mul_r hul hQ0
    have h3 := mul_le_mul_r hul hD0
    have h4 := mul_nn (Rat.le_of_lt hu) hD0
    grind
  have d2 : ab ((sv - k) * (yv - y0)) ≤ 1 / 10000 := by
    have h1 := ab_mul_le ks (Rat.le_refl (a := ab (yv - (y0 : Rat))))
    have h2 := mul_le_mul_r hul hQ0
    have h3 := mul_le_mul_r htl hD0
    grind
  have hst : ab (sv * tv - k * (yv - y0)) ≤ 2 / 10000 := by
    have := ab_add (sv * (tv - (yv - y0))) ((sv - k) * (yv - y0))
    rw [show sv * (tv - (yv - y0)) + (sv - k) * (yv - y0) = sv * tv - k * (yv - y0) by grind] at this
    grind
  have hkd : ab (k * (yv - y0)) ≤ 67108864 := by rw [ab_mul]; exact hQ
  have hb1 : ab (sv * tv) ≤ 67108865 := by
    have := ab_add (sv * tv - k * (yv - y0)) (k * (yv - y0))
    rw [show sv * tv - k * (yv - y0) + k * (yv - y0) = sv * tv by grind] at this
    grind
  obtain ⟨p, pv, e2, f2, _, k2⟩ := mul64B hs f1 hb1 (by decide +kernel)
  have n2 := near_le k2
  have n3 := ab_le.1 hst
  have hb2 : ab ((x0 : Rat) + pv) ≤ 200000000 := by
    have := ab_le.1 abx
    have := ab_le.1 hb1
    rw [ab_le]; grind
  obtain ⟨r, rv, e3, f3, _, k3⟩ := add64B fx0 f2 hb2 (by decide +kernel)
  refine ⟨r, rv, ?_, f3, ?_⟩
  · unfold atP
    rw [e1, Option.bind_some, e2, Option.bind_some, e3]
  · have n4 := near_le k3
    rw [ab_le]
    clear k1 k2 k3 hst d1 d2 hQ bD bs ks hkd hb1
    grind

/-- A number kept within 0 and one. -/
def cu (one z : Rat) : Rat := if z < 0 then 0 else if z < one then z else one

theorem cu_cl {one X : Rat} (h : 0 < one) : cu one (one * (1 - X)) = one * (1 - cl X) := by
  unfold cu cl
  by_cases h1 : X ≤ 0
  · have := mul_nn (Rat.le_of_lt h) (show 0 ≤ -X by grind)
    grind
  · by_cases h2 : X ≤ 1
    · have := mul_nn (Rat.le_of_lt h) (show 0 ≤ 1 - X by grind)
      have := Rat.mul_pos h (show 0 < X by grind)
      grind
    · have := Rat.mul_pos h (show 0 < X - 1 by grind)
      grind

theorem side_ok {right side slope y : Nat} {rv one sv k yv : Rat} {x0 y0 : Int} (hr : F64 right rv) (ho : F64 side one) (o0 : 0 < one) (br : ab rv ≤ 33554432) (hs : F64 slope sv) (ks : ab (sv - k) ≤ 3 * u64 * ab k + tiny64) (hy : F64 y yv) (bx : x0.natAbs ≤ 33554432) (b0 : y0.natAbs ≤ 33554432) (by' : ab yv ≤ 33554432)
    (hQ : ab k * ab (yv - y0) ≤ 67108864) : ∃ r v, sideAt right side x0 y0 slope y = some r ∧ F64 r v ∧ ab (v - cu one (rv - (x0 + k * (yv - y0)))) ≤ 2 / 1000 ∧ 0 ≤ v ∧ v ≤ one := by
  have hu := u64_pos
  have hul := u64_small
  obtain ⟨a, av, e1, f1, k1⟩ := at_ok hs ks hy bx b0 by' hQ
  have abx := int_ab bx
  rw [show ((33554432 : Nat) : Rat) = 33554432 from rfl] at abx
  have hkd : ab (k * (yv - y0)) ≤ 67108864 := by rw [ab_mul]; exact hQ
  have n1 := near_le k1
  have m1 := ab_le.1 abx
  have m2 := ab_le.1 hkd
  have m3 := ab_le.1 br
  obtain ⟨d, dv, e2, f2, _, _, k2⟩ := sub64B (B := 200000000) hr f1 (by rw [ab_le]; grind) (by decide +kernel)
  obtain ⟨m, e3, f3⟩ := max64_ok f2 v64_zero
  obtain ⟨r, e4, f4⟩ := min64_ok f3 ho
  refine ⟨r, _, ?_, f4, ?_, ?_, ?_⟩
  · unfold sideAt
    rw [e1, Option.bind_some, e2, Option.bind_some, e3, Option.bind_some, e4]
  · have n2 := near_le k2
    generalize (x0 : Rat) + k * (yv - y0) = L at *
    unfold cu
    rw [ab_le]
    clear k1 k2 m1 m2 m3 abx hkd
    grind
  · grind
  · grind
end Go.Proofs.Ytmgcbodlolnheaa
