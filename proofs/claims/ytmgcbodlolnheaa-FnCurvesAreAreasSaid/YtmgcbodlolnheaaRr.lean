/- The curve drawn, as a whole. No program is in sight. -/
import Derived.Test.YtmgcbodlolnheaaRq
namespace Go.Proofs.Ytmgcbodlolnheaa
open Ieee

theorem sm_congr_le {f g : Nat → Rat} {n : Nat} (h : ∀ m, m < n → f m = g m) : sm f n = sm g n := sm_congr h

set_option maxHeartbeats 1000000 in
theorem quad_to {W H ax ay bx bY cx cy : Nat} {axv ayv bxv byv cxv cyv : Rat} (hW : 1 ≤ W) (hH : H ≤ 64)
    (fax : F32 ax axv) (fay : F32 ay ayv) (fbx : F32 bx bxv) (fby : F32 bY byv) (fcx : F32 cx cxv) (fcy : F32 cy cyv)
    (max : Mult (-6) axv) (may : Mult (-6) ayv) (mbx : Mult (-6) bxv) (mby : Mult (-6) byv) (mcx : Mult (-6) cxv) (mcy : Mult (-6) cyv)
    (bax : ab axv ≤ 128) (bay : ab ayv ≤ 128) (bbx : ab bxv ≤ 128) (bby : ab byv ≤ 128) (bcx : ab cxv ≤ 128) (bcy : ab cyv ≤ 128) :
    ∃ b' B' n X Y, quadTo W H ax ay bx bY cx cy (fun _ => 0) = some b' ∧ Drawn W H axv bxv cxv ayv byv cyv b' B' n X Y := by
  have hu := u32_pos
  have hu2 : u32 ≤ 1 / 16000000 := by decide +kernel
  have ht0 := tiny32_pos
  have htl : tiny32 ≤ 1 / 1000000000 := Rat.le_trans tiny32_le (by decide +kernel)
  obtain ⟨wx, e1, f1⟩ := dev_ok fax fbx fcx max mbx mcx bax bbx bcx
  obtain ⟨wy, e2, f2⟩ := dev_ok fay fby fcy may mby mcy bay bby bcy
  have bDx : ab (axv - 2 * bxv + cxv) ≤ 512 := by
    have := ab_le.1 bax; have := ab_le.1 bbx; have := ab_le.1 bcx; rw [ab_le]; grind
  have bDy : ab (ayv - 2 * byv + cyv) ≤ 512 := by
    have := ab_le.1 bay; have := ab_le.1 bby; have := ab_le.1 bcy; rw [ab_le]; grind
  obtain ⟨dq, v, e3, f3, k3⟩ := devSq_ok e1 e2 f1 f2 bDx bDy
  have sx := sq_nn (axv - 2 * bxv + cxv)
  have sy := sq_nn (ayv - 2 * byv + cyv)
  have bxx := ab_mul_le bDx bDx
  have byy := ab_mul_le bDy bDy
  rw [ab_of_nonneg sx] at bxx
  rw [ab_of_nonneg sy] at byy
  have n3 := near_le k3
  have hS0 : 0 ≤ (axv - 2 * bxv + cxv) * (axv - 2 * bxv + cxv) + (ayv - 2 * byv + cyv) * (ayv - 2 * byv + cyv) := by grind
  have hS1 : (axv - 2 * bxv + cxv) * (axv - 2 * bxv + cxv) + (ayv - 2 * byv + cyv) * (ayv - 2 * byv + cyv) ≤ 524288 := by grind
  clear k3 sx sy bxx byy
  have z0 : Buf (fun _ => 0) (fun _ => 0) := fun _ => v_zero
  have hz : ∀ q : Nat, ab ((fun _ => 0 : Nat → Rat) q) ≤ ((0 : Nat) : Rat) * (204 / 100) := by
    intro q
    show ab 0 ≤ _
    rw [show ab 0 = 0 by decide +kernel, show ((0 : Nat) : Rat) = 0 from rfl]; grind
  unfold quadTo
  rw [e3, Option.bind_some, ge32_eq f3 v_w333]
  by_cases hc : v333 ≤ v
  · simp only [hc, decide_true, if_true]
    have hv3 : 3 / 10 ≤ v333 := by decide +kernel
    have hs2 : v ≤ 525000 := by
      generalize (axv - 2 * bxv + cxv) * (axv - 2 * bxv + cxv) + (ayv - 2 * byv + cyv) * (ayv - 2 * byv + cyv) = S2 at *
      have := mul_le_mul_r hu2 hS0
      grind
    obtain ⟨n, e4, h1, h36, hn4⟩ := segments_ok f3 (by grind) hs2
    have hflat := flat_ok (dx := axv - 2 * bxv + cxv) (dy := ayv - 2 * byv + cyv) (N := n) (by have := nat_cast_le_of h1; exact this) (by
      generalize (axv - 2 * bxv + cxv) * (axv - 2 * bxv + cxv) + (ayv - 2 * byv + cyv) * (ayv - 2 * byv + cyv) = S2 at *
      have := mul_le_mul_r hu2 hS0
      have hv0 : 1 / 1000000000 ≤ v / 100000000 := by grind
      grind)
    obtain ⟨nw, nv, e5, f5, nv0, nm, nk⟩ := inv_ok h1 h36
    have hVx := vertex_ok h1 h36 f5 nv0 nm nk fax fbx fcx max mbx mcx bax bbx bcx
    have hVy := vertex_ok h1 h36 f5 nv0 nm nk fay fby fcy may mby mcy bay bby bcy
    have hTT := t_ok h1 h36 f5 nv0 nm nk
    have hn1 : (1 : Rat) ≤ n := by have := nat_cast_le_of h1; exact this
    have hd := div_mul_self (a := 1) (b := (n : Rat)) (by grind)
    have g0 : 0 ≤ 1 / (n : Rat) := le_of_mul_le (c := n) (by grind) (by grind)
    have hin : ∀ m, m ≤ n → 0 ≤ (m : Rat) * (1 / n) ∧ (m : Rat) * (1 / n) ≤ 1 := by
      intro m hm
      have hm0 : (0 : Rat) ≤ m := by exact_mod_cast Nat.zero_le m
      have := mul_le_mul_r (nat_cast_le_of hm) g0
      have := mul_nn hm0 g0
      grind
    have big : ∀ {p q : Rat}, ab (p - q) ≤ 22000 * u32 → ab q ≤ 128 → ab p ≤ 129 := by
      intro p q h1 h2
      have := ab_add (p - q) q
      rw [show p - q + q = p by grind] at this
      grind
    obtain ⟨X, hXd⟩ : ∃ X : Nat → Rat, X = fun m => if m + 1 ≤ n then vl (vW nw ax bx cx m) else cxv := ⟨_, rfl⟩
    obtain ⟨Y, hYd⟩ : ∃ Y : Nat → Rat, Y = fun m => if m + 1 ≤ n then vl (vW nw ay bY cy m) else cyv := ⟨_, rfl⟩
    have hXm : ∀ m, m + 1 ≤ n → X m = vl (vW nw ax bx cx m) := fun m hm => by rw [hXd]; simp only [hm, if_true]
    have hYm : ∀ m, m + 1 ≤ n → Y m = vl (vW nw ay bY cy m) := fun m hm => by rw [hYd]; simp only [hm, if_true]
    have hXn : X n = cxv := by rw [hXd]; simp only [show ¬ (n + 1 ≤ n) by omega, if_false]
    have hYn : Y n = cyv := by rw [hYd]; simp only [show ¬ (n + 1 ≤ n) by omega, if_false]
    have bvx : ∀ m, m + 1 ≤ n → ab (X m) ≤ 129 := fun m hm => by
      rw [hXm m hm]; exact big (hVx m hm).2.2.1 (par_inside bax bbx bcx (hin m (by omega)).1 (hin m (by omega)).2)
    have bvy : ∀ m, m + 1 ≤ n → ab (Y m) ≤ 129 := fun m hm => by
      rw [hYm m hm]; exact big (hVy m hm).2.2.1 (par_inside bay bby bcy (hin m (by omega)).1 (hin m (by omega)).2)
    obtain ⟨b1, B1, g1, g2, g3, g4⟩ := quad_loop (nInv := nw) (ax := ax) (ay := ay) (bx := bx) (bY := bY) (cx := cx) (cy := cy) hW hH h36 X Y
      (fun m hm => ⟨by rw [hXm m hm]; exact (hVx m hm).1, by rw [hXm m hm]; exact (hVx m hm).2.1, bvx m hm⟩)
      (fun m hm => ⟨by rw [hYm m hm]; exact (hVy m hm).1, bvy m hm⟩)
      (fun m hm h => (hVx m hm).2.2.2 h) (fun m hm h => (hVy m hm).2.2.2 h)
      (fun m hm => by
        obtain ⟨_, _, _, _, _, hw⟩ := hTT (m + 1) hm
        obtain ⟨w, hw1, hw2⟩ := hw (by omega)
        rw [Nat.add_sub_cancel] at hw1
        rw [hw1, hw2])
      (n - 1) 0 (fun _ => 0) (fun _ => 0) (by omega) z0 hz
    rw [Nat.zero_add] at g1 g3 g4
    have hl := hVx (n - 1) (by omega)
    have hl2 := hVy (n - 1) (by omega)
    have hn36 : ((n - 1 : Nat) : Rat) ≤ 36 := by have := nat_cast_le_of (show n - 1 ≤ 36 by omega); exact this
    have hyn0 := ab_nonneg (Y n - Y (n - 1))
    obtain ⟨b2, B2, q1, q2, q3, q4⟩ := line_to (R := ab (Y n - Y (n - 1)) + 2) (bxv := X n) (b := Y n) (axv := X (n - 1)) (a := Y (n - 1)) hW hH (by rw [hXm (n - 1) (by omega)]; exact hl.1) (by rw [hYm (n - 1) (by omega)]; exact hl2.1) (by rw [hXn]; exact fcx) (by rw [hYn]; exact fcy)
      (bvx (n - 1) (by omega)) (bvy (n - 1) (by omega)) (by rw [hXn]; grind) (by rw [hYn]; grind) (by rw [hXm (n - 1) (by omega)]; exact hl.2.1) (by rw [hXn]; exact mcx.down (by omega)) (C := ((n - 1 : Nat) : Rat) * (204 / 100)) (by grind) g2 g3 (.inl Rat.le_refl) (by grind)
    have hnn : n - 1 + 1 = n := by omega
    have hnnq : ((n - 1 : Nat) : Rat) + 1 = n := by
      have : ((n - 1 + 1 : Nat) : Rat) = n := by rw [hnn]
      push_cast at this; exact this
    refine ⟨b2, B2, n, X, Y, ?_, ?_⟩
    · have c0 : (n : Int) - 1 = ((n - 1 : Nat) : Int) := by omega
      have e5' : div32 w1 (of32 (n : Int)) = some nw := e5
      have t0 : tW nw 0 = 0 := rfl
      have vx0 : vW nw ax bx cx 0 = ax := rfl
      have vy0 : vW nw ay bY cy 0 = ay := rfl
      rw [t0, vx0, vy0] at g1
      rw [e4, Option.bind_some, e5', Option.bind_some, c0, Int.toNat_natCast, g1, Option.bind_some]
      exact q1
    · refine ⟨q2, h1, h36, ?_, ?_, ?_, ?_, ?_, hXn, hYn, hflat, ?_⟩
      · intro q
        have := q3 q
        grind
      · intro m hm
        by_cases hmn : m + 1 ≤ n
        · rw [hXm m hmn]; exact (hVx m hmn).2.2.1
        · obtain rfl : m = n := by omega
          rw [hXn, par_last _ _ _ h1, Rat.sub_self, show ab 0 = 0 by decide +kernel]; grind
      · intro m hm
        by_cases hmn : m + 1 ≤ n
        · rw [hYm m hmn]; exact (hVy m hmn).2.2.1
        · obtain rfl : m = n := by omega
          rw [hYn, par_last _ _ _ h1, Rat.sub_self, show ab 0 = 0 by decide +kernel]; grind
      · rw [hXm 0 (by omega)]; exact vl_eq fax
      · rw [hYm 0 (by omega)]; exact vl_eq fay
      · intro i j hi hj
        have a1 := g4 i j hi hj
        have a2 := q4 i j hi hj
        have s1 : sumE X Y i j n = sumE X Y i j (n - 1) + addE i j (X (n - 1)) (Y (n - 1)) (X n) (Y n) := by
          obtain ⟨p, hp⟩ : ∃ p, n - 1 = p := ⟨_, rfl⟩
          rw [hp] at hnn ⊢
          rw [← hnn]; rfl
        have s2 : sumErr X Y j n = sumErr X Y j (n - 1) + lineErr (ab (Y n - Y (n - 1)) + 2) (X (n - 1)) (Y (n - 1)) (X n) (Y n) j := by
          obtain ⟨p, hp⟩ : ∃ p, n - 1 = p := ⟨_, rfl⟩
          rw [hp] at hnn ⊢
          rw [← hnn]; rfl
        rw [acc_zero, show sumE X Y i j 0 = 0 from rfl, show sumErr X Y j 0 = 0 from rfl] at a1
        have b1' := ab_le.1 a1
        have b2' := ab_le.1 a2
        rw [s1, s2, ab_le]
        generalize addE i j (X (n - 1)) (Y (n - 1)) (X n) (Y n) = AE at *
        generalize lineErr (ab (Y n - Y (n - 1)) + 2) (X (n - 1)) (Y (n - 1)) (X n) (Y n) j = LE at *
        clear a1 a2 g4 q4 hVx hVy hTT hin big hXm hYm bvx bvy g3 q3 hz hl hl2 hflat
        grind
  · simp only [hc, decide_false, Bool.false_eq_true, if_false]
    have hv3 : v333 ≤ 33301 / 100000 := by decide +kernel
    have hflat := flat_ok (dx := axv - 2 * bxv + cxv) (dy := ayv - 2 * byv + cyv) (N := ((1 : Nat) : Rat)) (by rw [show ((1 : Nat) : Rat) = 1 from rfl]; exact Rat.le_refl) (by
      rw [show ((1 : Nat) : Rat) = 1 from rfl]
      generalize (axv - 2 * bxv + cxv) * (axv - 2 * bxv + cxv) + (ayv - 2 * byv + cyv) * (ayv - 2 * byv + cyv) = S2 at *
      have := mul_le_mul_r hu2 hS0
      grind)
    have hyn0 := ab_nonneg (cyv - ayv)
    obtain ⟨b2, B2, q1, q2, q3, q4⟩ := line_to (R := ab (cyv - ayv) + 2) (C := 0) hW hH fax fay fcx fcy (by grind) (by grind) (by grind) (by grind) (max.down (by omega)) (mcx.down (by omega)) (by grind) z0 (fun q => by have := hz q; rw [show ((0 : Nat) : Rat) = 0 from rfl] at this; grind) (.inl Rat.le_refl) (by grind)
    have p0 : ∀ a b c : Rat, par a (b - a) (a - 2 * b + c) (1 / ((1 : Nat) : Rat)) 0 = a := by
      intro a b c
      rw [par_form, show ((0 : Nat) : Rat) = 0 from rfl]; grind
    refine ⟨b2, B2, 1, fun m => if m = 0 then axv else cxv, fun m => if m = 0 then ayv else cyv, q1, q2, by omega, by omega, ?_, ?_, ?_, rfl, rfl, rfl, rfl, hflat, ?_⟩
    · intro q
      have := q3 q
      rw [show ((1 : Nat) : Rat) = 1 from rfl]; grind
    · intro m hm
      by_cases h0 : m = 0
      · subst h0
        rw [p0]; simp only [if_true]; rw [Rat.sub_self, show ab 0 = 0 by decide +kernel]; grind
      · obtain rfl : m = 1 := by omega
        rw [par_last _ _ _ (by omega)]; simp only [if_neg h0]; rw [Rat.sub_self, show ab 0 = 0 by decide +kernel]; grind
    · intro m hm
      by_cases h0 : m = 0
      · subst h0
        rw [p0]; simp only [if_true]; rw [Rat.sub_self, show ab 0 = 0 by decide +kernel]; grind
      · obtain rfl : m = 1 := by omega
        rw [par_last _ _ _ (by omega)]; simp only [if_neg h0]; rw [Rat.sub_self, show ab 0 = 0 by decide +kernel]; grind
    · intro i j hi hj
      have a2 := q4 i j hi hj
      rw [acc_zero] at a2
      have s1 : sumE (fun m => if m = 0 then axv else cxv) (fun m => if m = 0 then ayv else cyv) i j 1 = 0 + addE i j axv ayv cxv cyv := rfl
      have s2 : sumErr (fun m => if m = 0 then axv else cxv) (fun m => if m = 0 then ayv else cyv) j 1 = 0 + lineErr (ab (cyv - ayv) + 2) axv ayv cxv cyv j := rfl
      rw [s1, s2]
      rw [show (0 : Rat) + lineErr (ab (cyv - ayv) + 2) axv ayv cxv cyv j = lineErr (ab (cyv - ayv) + 2) axv ayv cxv cyv j by grind]
      exact a2
end Go.Proofs.Ytmgcbodlolnheaa
