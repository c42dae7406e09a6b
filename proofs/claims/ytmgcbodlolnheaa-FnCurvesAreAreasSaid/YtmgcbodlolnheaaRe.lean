/- An edge's row over several columns, in numbers. No program is in sight. -/
import Derived.Test.YtmgcbodlolnheaaRd
namespace Go.Proofs.Ytmgcbodlolnheaa
open Ieee

/-- What all far rows begin with. -/
structure FarHead (x0 x1 : Nat) (z y : Int) (a c S : Rat) (sw fw a0w amw : Nat) (sv fv a0 am : Rat) : Prop where
  prog : ∀ {α : Type} (k : Nat → Nat → Nat → Nat → Option α),
    ((sub32 x1 x0).bind fun g => (div32 w1 g).bind fun s => (sub32 x0 (of32 z)).bind fun x0f => (sub32 w1 x0f).bind fun o => (mul32 wHalf s).bind fun hs => (mul32 hs o).bind fun ho => (mul32 ho o).bind fun a0 =>
      (sub32 x1 (of32 y)).bind fun e => (add32 e w1).bind fun x1f => (mul32 hs x1f).bind fun hf => (mul32 hf x1f).bind fun am => k s x0f a0 am) = k sw fw a0w amw
  fs : F32 sw sv
  ff : F32 fw fv
  f0 : F32 a0w a0
  fm : F32 amw am
  ns : ab (sv - S) ≤ 18 / 5 * u32 * S
  nf : ab (fv - (a - z)) ≤ u32 / 2
  n0 : ab (a0 - S * ((1 - (a - z)) * (1 - (a - z))) / 2) ≤ 60 * u32
  nm : ab (am - S * ((c - y + 1) * (c - y + 1)) / 2) ≤ 60 * u32

theorem far_head {x0 x1 : Nat} {a c S : Rat} {z y : Int} (hx0 : F32 x0 a) (hx1 : F32 x1 c) (ba : ab a ≤ 130) (bc : ab c ≤ 130) (hz0 : (z : Rat) ≤ a) (hz1 : a < z + 1) (hy0 : (y : Rat) - 1 < c) (hy1 : c ≤ y)
    (hzy : z + 2 ≤ y) (gap : p2 (-99) ≤ c - a) (hS : S * (c - a) = 1) : ∃ sw fw a0w amw sv fv a0 am, FarHead x0 x1 z y a c S sw fw a0w amw sv fv a0 am := by
  have hu := u32_pos
  have hu2 : u32 ≤ 1 / 1000000 := by decide +kernel
  have ht := tiny_u
  have ht0 := tiny32_pos
  have ba' := ab_le.1 ba
  have bc' := ab_le.1 bc
  have hg0 : 0 < c - a := by have := p2_pos (-99); grind
  have hS0 : 0 < S := by
    rcases rtot S 0 with h | h
    · have := mul_le_mul_r h (Rat.le_of_lt hg0); grind
    · by_cases e : S = 0
      · subst e; grind
      · grind
  have hzq : ((z + 2 : Int) : Rat) ≤ y := Rat.intCast_le_intCast.2 hzy
  rw [Rat.intCast_add] at hzq
  have hzq' : (z : Rat) + 2 ≤ y := hzq
  have hzn : z.natAbs < 2 ^ 24 := by
    have := natAbs_small (z := z) (B := 131) (by push_cast; grind) (by push_cast; grind)
    omega
  have hyn : y.natAbs < 2 ^ 24 := by
    have := natAbs_small (z := y) (B := 131) (by push_cast; grind) (by push_cast; grind)
    omega
  -- the width
  obtain ⟨g, gv, e1, f1, _, k1⟩ := f32_sub hx1 hx0 (Rat.le_trans (show ab (c - a) ≤ 260 by rw [ab_le]; grind) (le_huge (by decide +kernel)))
  rw [ab_of_nonneg (Rat.le_of_lt hg0)] at k1
  have k1n := near_le k1
  have hgu := mul_le_mul_r hu2 (Rat.le_of_lt hg0)
  have hgv : 999 / 1000 * (c - a) ≤ gv := by grind
  have hgv0 : 0 < gv := by grind
  have hr := div_mul_self (a := 1) (b := gv) (by grind)
  have hr0 : 0 ≤ 1 / gv := le_of_mul_le hgv0 (by grind)
  have hrS : 1 / gv ≤ 1000 / 999 * S := by
    refine le_of_mul_le hg0 ?_
    have := mul_le_mul_l hgv hr0
    grind
  have hSmin : 1 ≤ 260 * S := by
    have := mul_le_mul_l (show c - a ≤ 260 by grind) (Rat.le_of_lt hS0)
    grind
  have hSmax : S ≤ p2 99 := by
    refine le_of_mul_le (p2_pos (-99)) ?_
    have h1 := mul_le_mul_l gap (Rat.le_of_lt hS0)
    have h2 : p2 99 * p2 (-99) = 1 := by rw [← p2_add]; exact p2_zero
    grind
  have hhuge : 1 / gv ≤ huge := by
    have h2 : p2 99 * 2 ≤ huge := by
      unfold huge
      rw [show (120 : Int) = 99 + 21 by omega, p2_add]
      have h3 : (2 : Rat) ≤ p2 21 := by have := p2_mono (show (1 : Int) ≤ 21 by omega); rw [p2_one] at this; exact this
      exact mul_le_mul_l h3 (Rat.le_of_lt (p2_pos 99))
    grind
  obtain ⟨s, sv, e2, f2, k2⟩ := f32_div v_w1 f1 (by grind) (by rw [ab_of_nonneg hr0]; exact hhuge)
  rw [ab_of_nonneg hr0] at k2
  have hrd : ab (1 / gv - S) ≤ u32 * (1 / gv) := by
    have e : 1 / gv - S = (1 / gv) * S * ((c - a) - gv) := by grind
    have h3 : ab ((c - a) - gv) ≤ u32 * (c - a) := by rw [← ab_neg, show -((c - a) - gv) = gv - (c - a) by grind]; exact k1
    have h4 : ab ((1 / gv) * S) ≤ (1 / gv) * S := by rw [ab_of_nonneg (mul_nn hr0 (Rat.le_of_lt hS0))]; exact Rat.le_refl
    have h5 := ab_mul_le h4 h3
    have h6 : (1 / gv) * S * (u32 * (c - a)) = u32 * (1 / gv) := by rw [show (1 / gv) * S * (u32 * (c - a)) = u32 * (1 / gv) * (S * (c - a)) by grind, hS, Rat.mul_one]
    rw [e]
    rw [h6] at h5
    exact h5
  have hus := mul_nn (Rat.le_of_lt hu) (Rat.le_of_lt hS0)
  have hsv : ab (sv - S) ≤ 18 / 5 * u32 * S := by
    have n1 := near_le k2
    have n2 := ab_le.1 hrd
    have h3 := mul_le_mul_l hrS (Rat.le_of_lt hu)
    have h4 : tiny32 ≤ u32 * S / 2 := by
      have := mul_le_mul_l hSmin (Rat.le_of_lt hu)
      grind
    rw [ab_le]; grind
  have hsn := near_le hsv
  have husm := mul_le_mul_r hu2 (Rat.le_of_lt hS0)
  -- the first column
  obtain ⟨fw, fv, ow, ov, e3, f3, k3, hfv0, e4, f4, k4, hz4⟩ := frac_right hx0 hz0 hz1 hzn
  -- half of s
  have hsb : ab (1 / 2 * sv) ≤ 51 / 100 * S := by rw [ab_le]; grind
  obtain ⟨hw, hv, e5, f5, _, k5⟩ := f32_mul v_wHalf f2 (by
    have h2 : p2 99 ≤ huge := p2_mono (by omega)
    grind)
  have hhv : ab (hv - S / 2) ≤ 3 * u32 * S := by
    have n1 := near_le k5
    have h3 := mul_le_mul_l hsb (Rat.le_of_lt hu)
    have h4 : tiny32 ≤ u32 * S * (261 / 1000) := by
      have := mul_le_mul_l hSmin (Rat.le_of_lt hu)
      grind
    rw [ab_le]; grind
  have hSo : S * (1 - (a - z)) ≤ 1 := by
    have := mul_le_mul_l (show 1 - (a - z) ≤ c - a by grind) (Rat.le_of_lt hS0)
    grind
  obtain ⟨p, a0w, pv, a0, e6, e7, f6, f7, k7⟩ := sq_ok f5 f4 hS0 hhv (by grind) (by grind) hSo k4 hz4
  obtain ⟨ew, ev, lw, lv, e8, e9, f8, f9, k9, hz9⟩ := frac_left hx1 hy0 hy1 hyn
  have hSe : S * (c - y + 1) ≤ 1 := by
    have := mul_le_mul_l (show c - y + 1 ≤ c - a by grind) (Rat.le_of_lt hS0)
    grind
  obtain ⟨q, amw, qv, am, e10, e11, f10, f11, k11⟩ := sq_ok f5 f9 hS0 hhv (by grind) (by grind) hSe k9 hz9
  refine ⟨s, fw, a0w, amw, sv, fv, a0, am, ?_, f2, f3, f7, f11, hsv, k3, k7, k11⟩
  intro α k
  have E1 : sub32 x1 x0 = some g := e1
  have E2 : div32 w1 g = some s := e2
  have E5 : mul32 wHalf s = some hw := e5
  simp only [E1, E2, e3, e4, E5, e6, e7, e8, e9, e10, e11, Option.bind_some]
end Go.Proofs.Ytmgcbodlolnheaa
