/- An edge's row over several columns, in numbers: its ends. No program is in sight. -/
import Derived.Test.YtmgcbodlolnheaaRc
namespace Go.Proofs.Ytmgcbodlolnheaa
open Ieee

theorem p2_m24 : p2 (-24) = u32 := by have := p2_negNat 24; exact this.trans (by decide +kernel)
theorem fb32 : single.fractionBits = 23 := rfl

/-- A multiple of u near a multiple of u is that. -/
theorem whole_u {v : Rat} {k n : Int} (hv : v = k * u32) (h0 : (n : Rat) * u32 - u32 < v) (h1 : v < n * u32 + u32) : v = n * u32 := by
  have hu := u32_pos
  have a : (n : Rat) - 1 < k := by
    rcases rtot (k : Rat) ((n : Rat) - 1) with h | h
    · have := mul_le_mul_r h (Rat.le_of_lt hu); grind
    · by_cases e : (k : Rat) = (n : Rat) - 1
      · rw [e] at hv; grind
      · grind
  have b : (k : Rat) < n + 1 := by
    rcases rtot ((n : Rat) + 1) (k : Rat) with h | h
    · have := mul_le_mul_r h (Rat.le_of_lt hu); grind
    · by_cases e : (k : Rat) = (n : Rat) + 1
      · rw [e] at hv; grind
      · grind
  have a' : ((n - 1 : Int) : Rat) < k := by rw [Rat.intCast_sub]; exact a
  have b' : (k : Rat) < ((n + 1 : Int) : Rat) := by rw [Rat.intCast_add]; exact b
  have a2 := Rat.intCast_lt_intCast.1 a'
  have b2 := Rat.intCast_lt_intCast.1 b'
  have : k = n := by omega
  rw [hv, this]

theorem int24 : ((16777216 : Int) : Rat) * u32 = 1 := by decide +kernel
theorem int24n : ((-16777216 : Int) : Rat) * u32 = -1 := by decide +kernel

/-- The part of the first column that lies to the right. -/
theorem frac_right {x : Nat} {a : Rat} {z : Int} (hx : F32 x a) (h0 : (z : Rat) ≤ a) (h1 : a < z + 1) (hz : z.natAbs < 2 ^ 24) :
    ∃ fw fv ow ov, sub32 x (of32 z) = some fw ∧ F32 fw fv ∧ ab (fv - (a - z)) ≤ u32 / 2 ∧ 0 ≤ fv ∧ sub32 w1 fw = some ow ∧ F32 ow ov ∧ ab (ov - (1 - (a - z))) ≤ 2 * u32 ∧ (1 - (a - z) < u32 / 2 → ov = 0) := by
  have hu := u32_pos
  have hu2 : u32 ≤ 1 / 1000000 := by decide +kernel
  have fz := of32_ok z hz
  obtain ⟨fw, fv, e1, f1, r1, k1⟩ := f32_sub hx fz (Rat.le_trans (show ab (a - z) ≤ 1 by rw [ab_le]; grind) (le_huge (by decide +kernel)))
  have hh := r1.half (-24) (by rw [least32]; omega) (by
    rw [fb32, show (-24 : Int) + ((23 : Nat) : Int) + 1 = 0 by omega, p2_zero, ab_of_nonneg (by grind)]; grind)
  rw [p2_m24] at hh
  have hn := near_le hh
  have hfv := r1.nonneg (by grind)
  obtain ⟨ow, ov, e2, f2, r2, k2⟩ := f32_sub v_w1 f1 (Rat.le_trans (show ab (1 - fv) ≤ 2 by rw [ab_le]; grind) (le_huge (by decide +kernel)))
  have k2' : ab (ov - (1 - fv)) ≤ 101 / 100 * u32 := by
    have := mul_le_mul_l (show ab (1 - fv) ≤ 101 / 100 by rw [ab_le]; grind) (Rat.le_of_lt hu)
    grind
  have k2n := near_le k2'
  refine ⟨fw, fv, ow, ov, e1, f1, hh, hfv, e2, f2, by rw [ab_le]; grind, ?_⟩
  intro ho
  obtain ⟨k, hk⟩ := f1.grain (e := -1) (by
    have : p2 (-1) = 1 / 2 := by have := p2_negNat 1; exact this.trans (by decide +kernel)
    rw [this, ab_of_nonneg hfv]; grind)
  rw [fb32, show (-1 : Int) - ((23 : Nat) : Int) = -24 by omega, p2_m24] at hk
  have h1' := whole_u (n := 16777216) hk (by rw [int24]; grind) (by rw [int24]; grind)
  rw [int24] at h1'
  rw [h1', show (1 : Rat) - 1 = 0 by grind, show ab 0 = 0 by unfold ab; grind] at k2
  have := near_le k2
  grind

/-- The part of the last column that lies to the left. -/
theorem frac_left {x : Nat} {c : Rat} {y : Int} (hx : F32 x c) (h0 : (y : Rat) - 1 < c) (h1 : c ≤ y) (hy : y.natAbs < 2 ^ 24) :
    ∃ ew ev fw fv, sub32 x (of32 y) = some ew ∧ add32 ew w1 = some fw ∧ F32 ew ev ∧ F32 fw fv ∧ ab (fv - (c - y + 1)) ≤ 2 * u32 ∧ (c - y + 1 < u32 / 2 → fv = 0) := by
  have hu := u32_pos
  have hu2 : u32 ≤ 1 / 1000000 := by decide +kernel
  have fz := of32_ok y hy
  obtain ⟨ew, ev, e1, f1, r1, k1⟩ := f32_sub hx fz (Rat.le_trans (show ab (c - y) ≤ 1 by rw [ab_le]; grind) (le_huge (by decide +kernel)))
  have hh := r1.half (-24) (by rw [least32]; omega) (by
    rw [fb32, show (-24 : Int) + ((23 : Nat) : Int) + 1 = 0 by omega, p2_zero, ab_of_nonpos (by grind)]; grind)
  rw [p2_m24] at hh
  have hn := near_le hh
  obtain ⟨fw, fv, e2, f2, r2, k2⟩ := f32_add f1 v_w1 (Rat.le_trans (show ab (ev + 1) ≤ 2 by rw [ab_le]; grind) (le_huge (by decide +kernel)))
  have k2' : ab (fv - (ev + 1)) ≤ 101 / 100 * u32 := by
    have := mul_le_mul_l (show ab (ev + 1) ≤ 101 / 100 by rw [ab_le]; grind) (Rat.le_of_lt hu)
    grind
  have k2n := near_le k2'
  refine ⟨ew, ev, fw, fv, e1, e2, f1, f2, by rw [ab_le]; grind, ?_⟩
  intro ho
  have hev := r1.nonpos (by grind)
  obtain ⟨k, hk⟩ := f1.grain (e := -1) (by
    have : p2 (-1) = 1 / 2 := by have := p2_negNat 1; exact this.trans (by decide +kernel)
    rw [this, ab_of_nonpos hev]; grind)
  rw [fb32, show (-1 : Int) - ((23 : Nat) : Int) = -24 by omega, p2_m24] at hk
  have h1' := whole_u (n := -16777216) hk (by rw [int24n]; grind) (by rw [int24n]; grind)
  rw [int24n] at h1'
  rw [h1', show (-1 : Rat) + 1 = 0 by grind, show ab 0 = 0 by unfold ab; grind] at k2
  have := near_le k2
  grind

/-- Half of s times the square of a part. -/
theorem sq_ok {hw ow : Nat} {hv ov S o : Rat} (hh : F32 hw hv) (ho : F32 ow ov) (hS : 0 < S) (hhv : ab (hv - S / 2) ≤ 3 * u32 * S) (h0 : 0 ≤ o) (h1 : o ≤ 1) (hSo : S * o ≤ 1)
    (hov : ab (ov - o) ≤ 2 * u32) (hz : o < u32 / 2 → ov = 0) :
    ∃ p a pv av, mul32 hw ow = some p ∧ mul32 p ow = some a ∧ F32 p pv ∧ F32 a av ∧ ab (av - S * (o * o) / 2) ≤ 60 * u32 := by
  have hu := u32_pos
  have hu2 : u32 ≤ 1 / 1000000 := by decide +kernel
  have ht := tiny_u
  have ht0 := tiny32_pos
  by_cases hc : o < u32 / 2
  · have e := hz hc
    subst e
    obtain ⟨p, pv, e1, f1, _, k1⟩ := f32_mul hh ho (by rw [Rat.mul_zero, show ab 0 = 0 by unfold ab; grind]; exact Rat.le_of_lt huge_pos)
    rw [Rat.mul_zero, show ab 0 = 0 by unfold ab; grind] at k1
    obtain ⟨a, av, e2, f2, _, k2⟩ := f32_mul f1 ho (by rw [Rat.mul_zero, show ab 0 = 0 by unfold ab; grind]; exact Rat.le_of_lt huge_pos)
    rw [Rat.mul_zero, show ab 0 = 0 by unfold ab; grind] at k2
    refine ⟨p, a, pv, av, e1, e2, f1, f2, ?_⟩
    have h3 : S * (o * o) ≤ u32 / 2 := by
      have := mul_le_mul_r hSo h0
      grind
    have h4 : 0 ≤ S * (o * o) := mul_nn (Rat.le_of_lt hS) (sq_nn o)
    have := near_le k2
    rw [ab_le]; grind
  · have hovn := near_le hov
    have hov0 : ab ov ≤ 5 * o := by rw [ab_le]; grind
    have hS0 := Rat.le_of_lt hS
    have hhb : ab hv ≤ S := by
      have := near_le hhv
      have h6 := mul_nn (Rat.le_of_lt hu) hS0
      have h7 := mul_le_mul_r hu2 hS0
      rw [ab_le]; grind
    have hp1 : ab (hv * ov) ≤ 5 := by
      have h5 := ab_mul_le hhb hov0
      grind
    obtain ⟨p, pv, e1, f1, _, k1⟩ := f32_mul hh ho (Rat.le_trans hp1 (le_huge (by decide +kernel)))
    have k1' : ab (pv - hv * ov) ≤ 6 * u32 := by
      have := mul_le_mul_l hp1 (Rat.le_of_lt hu)
      grind
    have hov2 : ab ov ≤ 101 / 100 := by rw [ab_le]; grind
    have hpv : ab pv ≤ 6 := by
      have := near_le k1'
      have := ab_le.1 hp1
      rw [ab_le]; grind
    have hp2 : ab (pv * ov) ≤ 7 := by
      have h5 := ab_mul_le hpv hov2
      grind
    obtain ⟨a, av, e2, f2, _, k2⟩ := f32_mul f1 ho (Rat.le_trans hp2 (le_huge (by decide +kernel)))
    have k2' : ab (av - pv * ov) ≤ 8 * u32 := by
      have := mul_le_mul_l hp2 (Rat.le_of_lt hu)
      grind
    refine ⟨p, a, pv, av, e1, e2, f1, f2, ?_⟩
    -- pv ov near hv ov ov near S/2 ov ov near S/2 o o
    have d1 := ab_mul_le k1' hov2
    have d2 : ab ((hv - S / 2) * ov * ov) ≤ 16 * u32 := by
      have h5 := ab_mul_le (ab_mul_le hhv hov0) hov2
      have h6 := mul_le_mul_l hSo (Rat.le_of_lt hu)
      grind
    have d3 : ab (S / 2 * (ov - o) * (ov + o)) ≤ 6 * u32 := by
      have h5 : ab (ov + o) ≤ 6 * o := by rw [ab_le]; have := ab_le.1 hov0; grind
      have h6 : ab (S / 2) ≤ S / 2 := by rw [ab_of_nonneg (by grind)]; exact Rat.le_refl
      have h7 := ab_mul_le (ab_mul_le h6 hov) h5
      have h8 := mul_le_mul_l hSo (Rat.le_of_lt hu)
      grind
    have e : av - S * (o * o) / 2 = (av - pv * ov) + (pv - hv * ov) * ov + (hv - S / 2) * ov * ov + S / 2 * (ov - o) * (ov + o) := by grind
    have n1 := ab_le.1 k2'
    have n2 := ab_le.1 d1
    have n3 := ab_le.1 d2
    have n4 := ab_le.1 d3
    rw [e, ab_le]
    grind
end Go.Proofs.Ytmgcbodlolnheaa
