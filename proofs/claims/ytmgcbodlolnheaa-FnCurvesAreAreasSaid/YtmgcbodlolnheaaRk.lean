/- One row of an edge: what its words stand for, and what it adds to the sums. No program is in sight. -/
import Derived.Test.YtmgcbodlolnheaaRj
namespace Go.Proofs.Ytmgcbodlolnheaa
open Ieee

/-- The top and the foot of an edge within a row. -/
def topR (a : Rat) (y : Int) : Rat := if a < y then y else a
def footR (b : Rat) (y : Int) : Rat := if (y : Rat) + 1 < b then y + 1 else b

theorem int_succ (y : Int) : ((y + 1 : Int) : Rat) = y + 1 := by rw [Rat.intCast_add]; rfl
theorem p2_0 : p2 0 = 1 := p2_zero

theorem dy_ok {ay bY : Nat} {a b : Rat} {y : Int} (ha : F32 ay a) (hb : F32 bY b) (hy : y.natAbs < 10000) (h0 : topR a y ≤ footR b y) (h1 : footR b y ≤ topR a y + 1) :
    ∃ w v, rowDy ay bY y = some w ∧ F32 w v ∧ 0 ≤ v ∧ ab (v - (footR b y - topR a y)) ≤ u32 * (footR b y - topR a y) ∧ (footR b y - topR a y = 1 → v = 1) := by
  have fy := of32_ok y (by omega)
  have fy1 := of32_ok (y + 1) (by omega)
  have ft : F32 (if gt32 (of32 y) ay then of32 y else ay) (topR a y) := by
    rw [gt32_eq fy ha]; unfold topR
    by_cases h : a < y
    · simp only [h, decide_true, if_true]; exact fy
    · simp only [h, decide_false, if_false, Bool.false_eq_true]; exact ha
  have fb : F32 (if lt32 (of32 (y + 1)) bY then of32 (y + 1) else bY) (footR b y) := by
    rw [lt32_eq fy1 hb, int_succ]; unfold footR
    by_cases h : (y : Rat) + 1 < b
    · simp only [h, decide_true, if_true]; rw [← int_succ]; exact fy1
    · simp only [h, decide_false, if_false, Bool.false_eq_true]; exact hb
  obtain ⟨r, c, h2, h3, h4, h5⟩ := f32_sub fb ft (Rat.le_trans (show ab (footR b y - topR a y) ≤ 1 by rw [ab_le]; grind) (le_huge (by decide +kernel)))
  refine ⟨r, c, h2, h3, h4.nonneg (by grind), ?_, ?_⟩
  · rw [ab_of_nonneg (x := footR b y - topR a y) (by grind)] at h5; exact h5
  · intro h
    have := h4.exact 1 0 (by rw [least32]; omega) (by
      rw [show ab ((1 : Int) : Rat) = p2 0 by rw [p2_zero]; decide +kernel]
      have h9 : p2 (single.fractionBits + 1) = 16777216 := by have := p2_nat 24; exact this.trans (by decide +kernel)
      rw [h9, p2_zero]; decide +kernel) (by rw [h, p2_zero]; decide +kernel)
    rw [this, h]

theorem dir_ok {d dir : Nat} {dyv s D : Rat} (hd : F32 d dyv) (hs : F32 dir s) (hs1 : s = 1 ∨ s = -1) (h0 : 0 ≤ D) (h1 : D ≤ 1) (k : ab (dyv - D) ≤ u32 * D) :
    ∃ w v, mul32 d dir = some w ∧ F32 w v ∧ ab (v - s * D) ≤ 3 * u32 ∧ ab v ≤ 101 / 100 := by
  have hu := u32_pos
  have hu2 := u32_small
  have hab : ∀ x : Rat, ab (x * s) = ab x := by
    intro x; rw [ab_mul]
    rcases hs1 with rfl | rfl
    · rw [show ab 1 = 1 by decide +kernel]; grind
    · rw [show ab (-1) = 1 by decide +kernel]; grind
  have kd := mul_le_mul_l h1 (Rat.le_of_lt hu)
  have kn := near_le k
  have b1 : ab (dyv * s) ≤ 1001 / 1000 := by rw [hab, ab_le]; grind
  obtain ⟨r, c, e1, f1, _, k1⟩ := mulB hd hs b1 (by decide +kernel)
  have k2 : ab (dyv * s - s * D) ≤ u32 := by
    rw [show dyv * s - s * D = (dyv - D) * s by grind, hab]; grind
  have m1 := ab_le.1 k1
  have m2 := ab_le.1 k2
  have m3 := ab_le.1 b1
  exact ⟨r, c, e1, f1, by rw [ab_le]; grind, by rw [ab_le]; grind⟩

/-- The next x. -/
theorem x_step {x dy m : Nat} {xv dyv mv M D : Rat} (hx : F32 x xv) (hdy : F32 dy dyv) (hm : F32 m mv) (hD0 : 0 ≤ D) (hD1 : D ≤ 1) (kd : ab (dyv - D) ≤ u32 * D) (km : ab (mv - M) ≤ 41 / 10 * u32 * ab M + tiny32)
    (hQ : ab M * D ≤ 258) (hX : ab (xv + M * D) ≤ 1295 / 10) :
    ∃ p pv xN xNv, mul32 dy m = some p ∧ Rounds single (dyv * mv) pv ∧ F32 p pv ∧ add32 x p = some xN ∧ F32 xN xNv ∧ Rounds single (xv + pv) xNv ∧ ab (xNv - (xv + M * D)) ≤ 7 * u32 * (ab M * D) + 131 * u32 := by
  have hu := u32_pos
  have hu2 := u32_small
  have ht := tiny_u
  have ht0 := tiny32_pos
  have hM0 := ab_nonneg M
  have hQ0 := mul_nn hM0 hD0
  have kn := near_le kd
  have uD := mul_le_mul_r hu2 hD0
  have bdy : ab dyv ≤ 1001 / 1000 * D := by rw [ab_le]; grind
  have t1 := ab_mul_le bdy km
  have t2 := ab_mul_le (Rat.le_refl (a := ab M)) kd
  have uQ := mul_nn (Rat.le_of_lt hu) hQ0
  have uuQ := mul_le_mul_r hu2 hQ0
  have tD := mul_le_mul_l hD1 (Rat.le_of_lt ht0)
  have k1 : ab (dyv * mv - M * D) ≤ 512 / 100 * u32 * (ab M * D) + 101 / 100 * tiny32 := by
    have m1 := ab_le.1 t1
    have m2 := ab_le.1 t2
    rw [show dyv * mv - M * D = dyv * (mv - M) + M * (dyv - D) by grind]
    have := ab_add (dyv * (mv - M)) (M * (dyv - D))
    grind
  have eMD : ab (M * D) = ab M * D := by rw [ab_mul, ab_of_nonneg hD0]
  have b1 : ab (dyv * mv) ≤ 101 / 100 * (ab M * D) + 1 / 1000000 := by
    have := ab_add (dyv * mv - M * D) (M * D)
    rw [show dyv * mv - M * D + M * D = dyv * mv by grind, eMD] at this
    grind
  obtain ⟨p, pv, e1, f1, r1, k2⟩ := f32_mul hdy hm (Rat.le_trans b1 (Rat.le_trans (show _ ≤ (262 : Rat) by grind) (le_huge (by decide +kernel))))
  have b2 := mul_le_mul_l b1 (Rat.le_of_lt hu)
  have k3 : ab (pv - M * D) ≤ 63 / 10 * u32 * (ab M * D) + 1 / 100 * u32 := by
    have := ab_add (pv - dyv * mv) (dyv * mv - M * D)
    rw [show pv - dyv * mv + (dyv * mv - M * D) = pv - M * D by grind] at this
    grind
  have m3 := near_le k3
  have mX := ab_le.1 hX
  have b3 : ab (xv + pv) ≤ 130 := by rw [ab_le]; grind
  obtain ⟨xN, xNv, e2, f2, r2, k4⟩ := addB hx f1 b3 (by decide +kernel)
  refine ⟨p, pv, xN, xNv, e1, r1, f1, e2, f2, r2, ?_⟩
  have := ab_add (xNv - (xv + pv)) (pv - M * D)
  rw [show xNv - (xv + pv) + (pv - M * D) = xNv - (xv + M * D) by grind] at this
  grind

/-- How far x may drift. -/
def dr : Rat := 27500 * u32

theorem mean_lohi (xv xNv i : Rat) : mean ((if xNv < xv then xNv else xv) - i) ((if xNv < xv then xv else xNv) - i) = mean (xv - i) (xNv - i) := by
  split
  · exact mean_symm _ _
  · rfl

set_option maxHeartbeats 1000000 in
theorem row_done {W H y : Nat} {L : List Bp} {b : Nat → Nat} {B : Nat → Rat} {dv xv xNv s Q C M ax ay T F : Rat} (hbuf : Buf b B) (hR : RowOk dv (if xNv < xv then xNv else xv) (if xNv < xv then xv else xNv) L)
    (hs1 : s = 1 ∨ s = -1) (hyT : (y : Rat) ≤ T) (hTF : T ≤ F) (hFy : F ≤ y + 1) (bd : ab dv ≤ 101 / 100) (kd : ab (dv - s * (F - T)) ≤ 3 * u32) (hQ : ab (xNv - xv) ≤ Q + 1 / 100) (hQ2 : Q ≤ 258)
    (hx : ab (xv - (ax + M * (T - ay))) ≤ dr) (hN : ab (xNv - (ax + M * (F - ay))) ≤ dr) (hC : C ≤ 98) (hB : ∀ k, y * W ≤ k → ab (B k) ≤ C) :
    ∃ b' B', bumps (W * H) (y * W) W L b = some b' ∧ Buf b' B' ∧ (∀ k, ab (B' k) ≤ ab (B k) + (if y * W ≤ k ∧ k ≤ y * W + W then 102 / 100 else 0)) ∧
      ∀ i j : Nat, i < W → j < H → ab (acc B' (j * W + i) - (acc B (j * W + i) + s * (pot M ax ay i j F - pot M ax ay i j T))) ≤ 480 * u32 + 103 * u32 * Q + (if j = y then 303 * u32 + dr * (F - T) else 0) := by
  have hu := u32_pos
  have hu2 : u32 ≤ 1 / 16000000 := by decide +kernel
  have hlen : (L.length : Rat) ≤ Q + 1 / 100 + 4 := by
    have h1 := hR.len
    have h2 := ab_le.1 hQ
    split at h1 <;> grind
  have hm := hR.mass
  have hlen2 := mul_le_mul_r hlen (show 0 ≤ 103 * u32 by grind)
  have huQ := mul_le_mul_l hQ2 (Rat.le_of_lt hu)
  have hmass : mass L + L.length * (103 * u32) ≤ 102 / 100 := by grind
  have hl0 : (0 : Rat) ≤ L.length := by exact_mod_cast Nat.zero_le _
  have hl1 := mul_nn hl0 (show 0 ≤ 103 * u32 by grind)
  obtain ⟨b', B', e1, buf1, bd1, un1, ac1⟩ := bumps_num (n := W * H) (base := y * W) (W := W) L hbuf hR.words (by grind) (fun k h1 h2 => by have := hB k h1; grind)
  refine ⟨b', B', e1, buf1, ?_, ?_⟩
  · intro k
    have := bd1 k
    by_cases hk : y * W ≤ k ∧ k ≤ y * W + W
    · rw [if_pos hk] at this ⊢; grind
    · rw [if_neg hk] at this ⊢; grind
  · intro i j hi hj
    have hlt : j * W + i < W * H := by
      have h1 : (j + 1) * W ≤ H * W := Nat.mul_le_mul_right W hj
      rw [Nat.add_mul, Nat.mul_comm H W] at h1
      omega
    have ha := ac1 (j * W + i) hlt
    have hab : ∀ x : Rat, ab (s * x) = ab x := by
      intro x; rw [ab_mul]
      rcases hs1 with rfl | rfl
      · rw [show ab 1 = 1 by decide +kernel]; grind
      · rw [show ab (-1) = 1 by decide +kernel]; grind
    have hyi : ((y : Int) : Rat) = y := Rat.intCast_natCast y
    -- what the bumps come to
    have key : ab (tot W (((j * W + i : Nat) : Int) - ((y * W : Nat) : Int)) L - s * (pot M ax ay i j F - pot M ax ay i j T)) ≤ 63 * u32 + (if j = y then 303 * u32 + dr * (F - T) else 0) := by
      rcases Nat.lt_trichotomy y j with hlt | heq | hgt
      · have hge : y * W + W ≤ j * W := by
          have : (y + 1) * W ≤ j * W := Nat.mul_le_mul_right W hlt
          rw [Nat.add_mul] at this; omega
        rw [if_neg (by omega), tot_all W _ (by omega), pot_over (y := (y : Int)) (by rw [hyi]; exact hyT) (by rw [hyi]; exact hFy) hTF (by omega) (by omega)]
        have k1 := ab_le.1 hR.whole
        have k2 := ab_le.1 kd
        rw [ab_le]; grind
      · subst heq
        rw [if_pos rfl, show ((y * W + i : Nat) : Int) - ((y * W : Nat) : Int) = (i : Int) by omega, tot_upto W _ (by omega) (by omega)]
        rw [pot_in hyT hFy hTF]
        have k1 := hR.part (i : Int)
        rw [mean_lohi, Rat.intCast_natCast] at k1
        have hmn := mean_lip (u := ax + M * (T - ay) - i) (v := ax + M * (F - ay) - i) (u' := xv - i) (v' := xNv - i) (d := dr) (by rw [show xv - (i : Rat) - (ax + M * (T - ay) - i) = xv - (ax + M * (T - ay)) by grind]; exact hx) (by rw [show xNv - (i : Rat) - (ax + M * (F - ay) - i) = xNv - (ax + M * (F - ay)) by grind]; exact hN)
        have n0 := mean_nn (xv - i) (xNv - i)
        have n1 := mean_le (xv - i) (xNv - i)
        generalize mean (xv - i) (xNv - i) = m1 at *
        generalize mean (ax + M * (T - ay) - i) (ax + M * (F - ay) - i) = m0 at *
        have k2 : ab ((dv - s * (F - T)) * (1 - m1)) ≤ 3 * u32 * 1 := ab_mul_le kd (by rw [ab_le]; grind)
        have k3 : ab (s * ((F - T) * (m0 - m1))) ≤ (F - T) * dr := by
          rw [hab]
          exact ab_mul_le (by rw [ab_of_nonneg (by grind)]; exact Rat.le_refl) (by rw [← ab_neg, show -(m0 - m1) = m1 - m0 by grind]; exact hmn)
        have q1 := ab_le.1 k1
        have q2 := ab_le.1 k2
        have q3 := ab_le.1 k3
        clear k1 k2 k3 hmn hx hN bd1 un1 ac1 hB hbuf buf1 ha hR
        rw [ab_le]; grind
      · have hge : j * W + W ≤ y * W := by
          have : (j + 1) * W ≤ y * W := Nat.mul_le_mul_right W hgt
          rw [Nat.add_mul] at this; omega
        rw [if_neg (by omega), tot_none W _ (by omega), pot_under (y := (y : Int)) (by rw [hyi]; exact hyT) hTF (by omega), ab_le]
        grind
    have ha1 := ab_le.1 ha
    have ha2 := ab_le.1 key
    generalize tot W (((j * W + i : Nat) : Int) - ((y * W : Nat) : Int)) L = tt at *
    generalize (if j = y then 303 * u32 + dr * (F - T) else 0) = ee at *
    clear ha key bd1 un1 ac1 hR hB hx hN hbuf buf1
    rw [ab_le]; grind
end Go.Proofs.Ytmgcbodlolnheaa
