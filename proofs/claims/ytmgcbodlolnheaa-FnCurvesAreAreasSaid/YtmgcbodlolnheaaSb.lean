/- The reference's trapezoids, in numbers. No program is in sight. -/
import Derived.Test.YtmgcbodlolnheaaSa
namespace Go.Proofs.Ytmgcbodlolnheaa
open Ieee

theorem cu_bounds {one z : Rat} (h : 0 < one) : 0 ≤ cu one z ∧ cu one z ≤ one := by unfold cu; grind

set_option maxHeartbeats 1000000 in
theorem trap_ok {right side sign slope prev cur sum : Nat} {rv s sv k pv cv sm : Rat} {x0 y0 : Int} (hr : F64 right rv) (ho : F64 side 262144) (hsg : F64 sign s) (hs1 : s = 1 ∨ s = -1) (br : ab rv ≤ 33554432)
    (hs : F64 slope sv) (ks : ab (sv - k) ≤ 3 * u64 * ab k + tiny64) (hp : F64 prev pv) (hc : F64 cur cv) (hm : F64 sum sm) (bx : x0.natAbs ≤ 33554432) (b0 : y0.natAbs ≤ 33554432) (bp : ab pv ≤ 33554432) (bc : ab cv ≤ 33554432) (bs : ab sm ≤ 20000000000000)
    (hQp : ab k * ab (pv - y0) ≤ 67108864) (hQc : ab k * ab (cv - y0) ≤ 67108864) (h0 : pv ≤ cv) (h1 : cv - pv ≤ 262144) :
    ∃ r v, trapStep right side sign x0 y0 slope prev cur sum = some r ∧ F64 r v ∧
      ab (v - (sm + s * ((cv - pv) * (cu 262144 (rv - (x0 + k * (pv - y0))) + cu 262144 (rv - (x0 + k * (cv - y0)))) / 2))) ≤ 1000 := by
  have hu := u64_pos
  have hul := u64_small
  have ht0 := tiny64_pos
  have htl : tiny64 ≤ 1 / 10000000000000000000000000 := Rat.le_trans tiny64_le (by decide +kernel)
  obtain ⟨a, av, e1, f1, k1, a0, a1⟩ := side_ok hr ho (by decide +kernel) br hs ks hp bx b0 bp hQp
  obtain ⟨b, bv, e2, f2, k2, c0, c1⟩ := side_ok hr ho (by decide +kernel) br hs ks hc bx b0 bc hQc
  obtain ⟨p0, p1⟩ := cu_bounds (one := 262144) (z := rv - (x0 + k * (pv - y0))) (by decide +kernel)
  obtain ⟨q0, q1⟩ := cu_bounds (one := 262144) (z := rv - (x0 + k * (cv - y0))) (by decide +kernel)
  generalize cu 262144 (rv - (x0 + k * (pv - y0))) = P at *
  generalize cu 262144 (rv - (x0 + k * (cv - y0))) = Q at *
  have bd : ab (cv - pv) ≤ 262144 := by rw [ab_of_nonneg (by grind)]; exact h1
  obtain ⟨d, dv, e3, f3, _, _, k3⟩ := sub64B hc hp bd (by decide +kernel)
  have n3 := near_le k3
  have hsab : ab s = 1 := by
    rcases hs1 with rfl | rfl
    · decide +kernel
    · decide +kernel
  have bdv : ab dv ≤ 262145 := by have := ab_le.1 bd; rw [ab_le]; grind
  have be : ab (s * dv) ≤ 262145 := by rw [ab_mul, hsab]; grind
  obtain ⟨e, ev, e4, f4, _, k4⟩ := mul64B hsg f3 be (by decide +kernel)
  have he : ab (ev - s * (cv - pv)) ≤ 1 / 10000 := by
    have h2 : ab (s * (dv - (cv - pv))) ≤ 262144 * u64 := by rw [ab_mul, hsab]; grind
    have := ab_add (ev - s * dv) (s * (dv - (cv - pv)))
    rw [show ev - s * dv + s * (dv - (cv - pv)) = ev - s * (cv - pv) by grind] at this
    grind
  obtain ⟨f, fv, e5, f5, _, k5⟩ := add64B (B := 524288) f1 f2 (by rw [ab_le]; grind) (by decide +kernel)
  have hf : ab (fv - (P + Q)) ≤ 5 / 1000 := by
    have n1 := near_le k1
    have n2 := near_le k2
    have n5 := near_le k5
    rw [ab_le]; grind
  have bf : ab fv ≤ 524289 := by have := near_le hf; rw [ab_le]; grind
  have bev : ab ev ≤ 262146 := by
    have := ab_add (ev - s * (cv - pv)) (s * (cv - pv))
    rw [show ev - s * (cv - pv) + s * (cv - pv) = ev by grind, ab_mul s, hsab] at this
    grind
  have bef := ab_mul_le bev bf
  obtain ⟨g, gv, e6, f6, _, k6⟩ := mul64B f4 f5 (Rat.le_trans bef (show _ ≤ (200000000000 : Rat) by decide +kernel)) (by decide +kernel)
  have hg : ab (gv - s * ((cv - pv) * (P + Q))) ≤ 1500 := by
    have t1 := ab_mul_le he bf
    have t2 : ab (s * (cv - pv) * (fv - (P + Q))) ≤ 262144 * (5 / 1000) := ab_mul_le (by rw [ab_mul, hsab]; grind) hf
    have n1 := ab_le.1 t1
    have n2 := ab_le.1 t2
    have n6 := ab_le.1 k6
    rw [ab_le]
    clear t1 t2 k1 k2 k3 k4 k5 k6 he hf bev bef be bdv
    grind
  have bpq : ab (s * ((cv - pv) * (P + Q))) ≤ 262144 * 524288 := by
    rw [ab_mul, hsab, Rat.one_mul]
    exact ab_mul_le bd (by rw [ab_le]; grind)
  have bg : ab gv ≤ 200000000000 := by
    have := ab_add (gv - s * ((cv - pv) * (P + Q))) (s * ((cv - pv) * (P + Q)))
    rw [show gv - s * ((cv - pv) * (P + Q)) + s * ((cv - pv) * (P + Q)) = gv by grind] at this
    grind
  have hg2 : ab (gv / 2) ≤ 100000000000 := by have := ab_le.1 bg; rw [ab_le]; grind
  obtain ⟨h, hv, e7, f7, k7⟩ := f64_div f6 v_d2 (by decide +kernel) (Rat.le_trans hg2 (le_huge (by decide +kernel)))
  have k7' : ab (hv - gv / 2) ≤ 1 := by
    have := mul_le_mul_l hg2 (Rat.le_of_lt hu)
    grind
  have n7 := near_le k7'
  have n8 := ab_le.1 hg2
  have bsum : ab (sm + hv) ≤ 30000000000000 := by have := ab_le.1 bs; rw [ab_le]; grind
  obtain ⟨r, v, e8, f8, _, k8⟩ := add64B hm f7 bsum (by decide +kernel)
  refine ⟨r, v, ?_, f8, ?_⟩
  · have E7 : div64 g d2 = some h := e7
    unfold trapStep
    rw [e1, Option.bind_some, e2, Option.bind_some, e3, Option.bind_some, e4, Option.bind_some, e5, Option.bind_some, e6, Option.bind_some, E7, Option.bind_some, e8]
  · have n9 := near_le k8
    have n10 := ab_le.1 hg
    rw [ab_le]
    clear k1 k2 k3 k4 k5 k6 k7 k8 k7' hg he hf bev bef be bdv bpq bg hg2 bsum
    grind

/-- Within a zone the trapezoid is right, but for the zone's blurred sides. -/
theorem trap_zone {X0 X1 η : Rat} (h : 0 ≤ η) (_hη : η ≤ 1 / 4) (a0 : ¬ (X0 < -η ∧ η < X1)) (a1 : ¬ (X1 < -η ∧ η < X0)) (b0 : ¬ (X0 < 1 - η ∧ 1 + η < X1)) (b1 : ¬ (X1 < 1 - η ∧ 1 + η < X0)) :
    ab (mean X0 X1 - (cl X0 + cl X1) / 2) ≤ 2 * η := by
  have key : ∀ U0 U1 : Rat, ab (X0 - U0) ≤ η → ab (X1 - U1) ≤ η → mean U0 U1 = (cl U0 + cl U1) / 2 → ab (mean X0 X1 - (cl X0 + cl X1) / 2) ≤ 2 * η := by
    intro U0 U1 h0 h1 hm
    have k1 := mean_lip (u := U0) (v := U1) (u' := X0) (v' := X1) h0 h1
    have k2 := Rat.le_trans (ab_cl U0 X0) h0
    have k3 := Rat.le_trans (ab_cl U1 X1) h1
    rw [hm] at k1
    have n1 := ab_le.1 k1
    have n2 := ab_le.1 k2
    have n3 := ab_le.1 k3
    rw [ab_le]; grind
  by_cases c1 : X0 ≤ η ∧ X1 ≤ η
  · -- both at the left
    refine key (if X0 ≤ 0 then X0 else 0) (if X1 ≤ 0 then X1 else 0) (by rw [ab_le]; grind) (by rw [ab_le]; grind) ?_
    rw [mean_low (by grind) (by grind), cl_low (x := if X0 ≤ 0 then X0 else 0) (by grind), cl_low (x := if X1 ≤ 0 then X1 else 0) (by grind)]; grind
  · by_cases c2 : 1 - η ≤ X0 ∧ 1 - η ≤ X1
    · refine key (if 1 ≤ X0 then X0 else 1) (if 1 ≤ X1 then X1 else 1) (by rw [ab_le]; grind) (by rw [ab_le]; grind) ?_
      rw [mean_high (by grind) (by grind), cl_high (x := if 1 ≤ X0 then X0 else 1) (by grind), cl_high (x := if 1 ≤ X1 then X1 else 1) (by grind)]; grind
    · have r0 : -η ≤ X0 ∧ X0 ≤ 1 + η ∧ -η ≤ X1 ∧ X1 ≤ 1 + η := by grind
      have z0 : ∀ x : Rat, -η ≤ x → x ≤ 1 + η → ab (x - cl x) ≤ η := by intro x h1 h2; rw [ab_le]; unfold cl; grind
      refine key (cl X0) (cl X1) (z0 _ r0.1 r0.2.1) (z0 _ r0.2.2.1 r0.2.2.2) ?_
      rw [mean_mid (cl_nn _) (cl_le _) (cl_nn _) (cl_le _), cl_mid (x := cl X0) (cl_nn _) (cl_le _), cl_mid (x := cl X1) (cl_nn _) (cl_le _)]
end Go.Proofs.Ytmgcbodlolnheaa
