/- An edge's row between two near columns, in numbers. No program is in sight. -/
import Derived.Test.YtmgcbodlolnheaaRb
namespace Go.Proofs.Ytmgcbodlolnheaa
open Ieee

theorem mean_low {u v : Rat} (hu : u ≤ 0) (hv : v ≤ 0) : mean u v = 0 := by
  have h0 := mean_nn u v
  have h1 := mean_mono (u' := 0) (v' := 0) hu hv
  rw [mean_self, cl_low Rat.le_refl] at h1
  grind
theorem mean_high {u v : Rat} (hu : 1 ≤ u) (hv : 1 ≤ v) : mean u v = 1 := by
  have h0 := mean_le u v
  have h1 := mean_mono (u := 1) (v := 1) hu hv
  rw [mean_self, cl_high Rat.le_refl] at h1
  grind
theorem mean_of {u v s : Rat} (h : u ≠ v) (hs : s * (v - u) = bi v - bi u) : mean u v = s := slope_unique h hs
theorem bi_low {x : Rat} (h : x ≤ 0) : bi x = 0 := by unfold bi; rw [cl_low h]; grind
theorem bi_mid {x : Rat} (h0 : 0 ≤ x) (h1 : x ≤ 1) : bi x = x * x / 2 := by unfold bi; rw [cl_mid h0 h1]; grind
theorem bi_high {x : Rat} (h : 1 ≤ x) : bi x = x - 1 / 2 := by unfold bi; rw [cl_high h]; grind
theorem mean_mid {u v : Rat} (hu0 : 0 ≤ u) (hu1 : u ≤ 1) (hv0 : 0 ≤ v) (hv1 : v ≤ 1) : mean u v = (u + v) / 2 := by
  by_cases e : u = v
  · subst e; rw [mean_self, cl_mid hu0 hu1]; grind
  · exact mean_of e (by rw [bi_mid hu0 hu1, bi_mid hv0 hv1]; grind)

/-- The sum of what lies in columns up to th. -/
def upto (th : Int) : List Bp → Rat
  | [] => 0
  | p :: L => (if p.xi ≤ th then p.v else 0) + upto th L
def all : List Bp → Rat
  | [] => 0
  | p :: L => p.v + all L

theorem tot_upto (W : Nat) (tau : Int) (h0 : 0 ≤ tau) (h1 : tau < W) (L : List Bp) : tot W tau L = upto tau L := by
  induction L with
  | nil => rfl
  | cons p L ih =>
    unfold tot upto
    rw [ih]
    congr 1
    have : clampZ p.xi W ≤ tau ↔ p.xi ≤ tau := by
      unfold clampZ
      split
      · omega
      · split <;> omega
    by_cases h : p.xi ≤ tau
    · rw [if_pos h, if_pos (this.2 h)]
    · rw [if_neg h, if_neg (fun k => h (this.1 k))]
theorem tot_all (W : Nat) (tau : Int) (h : (W : Int) ≤ tau) (L : List Bp) : tot W tau L = all L := by
  induction L with
  | nil => rfl
  | cons p L ih =>
    unfold tot all
    have := cZ_le p.xi W
    rw [ih, if_pos (by omega)]
theorem tot_none (W : Nat) (tau : Int) (h : tau < 0) (L : List Bp) : tot W tau L = 0 := by
  induction L with
  | nil => rfl
  | cons p L ih =>
    unfold tot
    have := cZ_nn p.xi W
    rw [ih, if_neg (by omega)]; grind

/-- A row's bumps are as they should be. -/
structure RowOk (d x0 x1 : Rat) (L : List Bp) : Prop where
  words : ∀ p, p ∈ L → F32 p.w p.v
  mass : mass L ≤ ab d + 700 * u32
  len : (L.length : Rat) ≤ x1 - x0 + 4
  part : ∀ th : Int, ab (upto th L - d * (1 - mean (x0 - th) (x1 - th))) ≤ 300 * u32
  whole : ab (all L - d) ≤ 60 * u32

theorem u32_pos : 0 < u32 := by decide +kernel
theorem tiny_u : tiny32 ≤ u32 / 1000 := Rat.le_trans tiny32_le (by decide +kernel)

/-- |c - e| small, in two halves. -/
theorem near_le {c e k : Rat} (h : ab (c - e) ≤ k) : e - k ≤ c ∧ c ≤ e + k := by
  have := ab_le.1 h; grind

theorem ab_mul_le {a b A B : Rat} (ha : ab a ≤ A) (hb : ab b ≤ B) : ab (a * b) ≤ A * B := by
  rw [ab_mul]
  have h1 := mul_le_mul_r ha (ab_nonneg b)
  have h2 := mul_le_mul_l hb (Rat.le_trans (ab_nonneg a) ha)
  exact Rat.le_trans h1 h2

theorem floor_bounds (a : Rat) : (a.floor : Rat) ≤ a ∧ a < a.floor + 1 := by
  refine ⟨Rat.floor_le a, ?_⟩
  have := Rat.lt_floor_add_one a
  rw [Rat.intCast_add] at this; exact this
theorem ceil_bounds (a : Rat) : (a.ceil : Rat) - 1 < a ∧ a ≤ a.ceil := by
  have e : (a.ceil : Rat) = -((-a).floor : Rat) := by rw [Rat.ceil_eq_neg_floor_neg, Rat.intCast_neg]
  have := floor_bounds (-a)
  grind

theorem natAbs_small {z : Int} {B : Nat} (h0 : -(B : Rat) ≤ z) (h1 : (z : Rat) ≤ B) : z.natAbs ≤ B := by
  have a : ((-(B : Int) : Int) : Rat) ≤ z := by rw [Rat.intCast_neg, Rat.intCast_natCast]; exact h0
  have b : (z : Rat) ≤ ((B : Int) : Rat) := by rw [Rat.intCast_natCast]; exact h1
  have a' := Rat.intCast_le_intCast.1 a
  have b' := Rat.intCast_le_intCast.1 b
  omega

set_option maxHeartbeats 1000000 in
theorem row_near {d x xN : Nat} {dv xv xNv : Rat} {z : Int} (hd : F32 d dv) (hx : F32 x xv) (hN : F32 xN xNv) (bd : ab dv ≤ 101 / 100) (bx : ab xv ≤ 130) (bN : ab xNv ≤ 130)
    (h0 : (z : Rat) ≤ xv) (h0' : (z : Rat) ≤ xNv) (h1 : xv ≤ z + 1) (h1' : xNv ≤ z + 1) :
    ∃ L, RowOk dv (if xNv < xv then xNv else xv) (if xNv < xv then xv else xNv) L ∧ ∀ n base W b, rowNear n base W z d x xN b = bumps n base W L b := by
  have hu := u32_pos
  have hu2 : u32 ≤ 1 / 1000000 := by decide +kernel
  have ht := tiny_u
  have ht0 := tiny32_pos
  have bx' := ab_le.1 bx
  have bN' := ab_le.1 bN
  have bd' := ab_le.1 bd
  obtain ⟨s, sv, e1, f1, _, k1⟩ := f32_add hx hN (Rat.le_trans (show ab (xv + xNv) ≤ 260 by rw [ab_le]; grind) (le_huge (by decide +kernel)))
  have k1' : ab (sv - (xv + xNv)) ≤ 260 * u32 := by
    have := mul_le_mul_l (show ab (xv + xNv) ≤ 260 by rw [ab_le]; grind) (Rat.le_of_lt hu)
    grind
  have k1n := near_le k1'
  obtain ⟨h, hv, e2, f2, _, k2⟩ := f32_mul v_wHalf f1 (Rat.le_trans (show ab (1 / 2 * sv) ≤ 131 by rw [ab_le]; grind) (le_huge (by decide +kernel)))
  have k2' : ab (hv - 1 / 2 * sv) ≤ 132 * u32 := by
    have := mul_le_mul_l (show ab (1 / 2 * sv) ≤ 131 by rw [ab_le]; grind) (Rat.le_of_lt hu)
    grind
  have k2n := near_le k2'
  have hz : z.natAbs < 2 ^ 24 := by
    have := natAbs_small (z := z) (B := 131) (by push_cast; grind) (by push_cast; grind)
    omega
  have fz := of32_ok z hz
  obtain ⟨m, mv, e3, f3, _, k3⟩ := f32_sub f2 fz (Rat.le_trans (show ab (hv - z) ≤ 2 by rw [ab_le]; grind) (le_huge (by decide +kernel)))
  have k3' : ab (mv - (hv - z)) ≤ 2 * u32 := by
    have := mul_le_mul_l (show ab (hv - z) ≤ 2 by rw [ab_le]; grind) (Rat.le_of_lt hu)
    grind
  have k3n := near_le k3'
  -- the mean
  have hM : ab (mv - ((xv + xNv) / 2 - z)) ≤ 264 * u32 := by rw [ab_le]; grind
  have hMn := near_le hM
  have bm : ab mv ≤ 101 / 100 := by rw [ab_le]; grind
  have bdm := ab_mul_le bd bm
  obtain ⟨q, qv, e4, f4, _, k4⟩ := f32_mul hd f3 (Rat.le_trans (show ab (dv * mv) ≤ 2 by grind) (le_huge (by decide +kernel)))
  have k4' : ab (qv - dv * mv) ≤ 3 * u32 := by
    have := mul_le_mul_l (show ab (dv * mv) ≤ 2 by grind) (Rat.le_of_lt hu)
    grind
  have k4n := near_le k4'
  have bdmn := ab_le.1 bdm
  obtain ⟨p, pv, e5, f5, _, k5⟩ := f32_sub hd f4 (Rat.le_trans (show ab (dv - qv) ≤ 3 by rw [ab_le]; grind) (le_huge (by decide +kernel)))
  have k5' : ab (pv - (dv - qv)) ≤ 3 * u32 := by
    have := mul_le_mul_l (show ab (dv - qv) ≤ 3 by rw [ab_le]; grind) (Rat.le_of_lt hu)
    grind
  have k5n := near_le k5'
  -- against the exact mean
  have hdM := ab_mul_le bd hM
  have hdMn := ab_le.1 hdM
  have hq : ab (qv - dv * ((xv + xNv) / 2 - z)) ≤ 270 * u32 := by rw [ab_le]; grind
  have hqn := near_le hq
  have hp : ab (pv - dv * (1 - ((xv + xNv) / 2 - z))) ≤ 273 * u32 := by rw [ab_le]; grind
  have hpn := near_le hp
  refine ⟨[⟨z, p, pv⟩, ⟨z + 1, q, qv⟩], ⟨?_, ?_, ?_, ?_, ?_⟩, ?_⟩
  · intro b hb
    rcases List.mem_cons.1 hb with rfl | hb
    · exact f5
    · rcases List.mem_cons.1 hb with rfl | hb
      · exact f4
      · cases hb
  · have hM0 : 0 ≤ (xv + xNv) / 2 - z := by grind
    have hM1 : 0 ≤ 1 - ((xv + xNv) / 2 - z) := by grind
    have a1 : ab (dv * (1 - ((xv + xNv) / 2 - z))) = ab dv * (1 - ((xv + xNv) / 2 - z)) := by rw [ab_mul, ab_of_nonneg hM1]
    have a2 : ab (dv * ((xv + xNv) / 2 - z)) = ab dv * ((xv + xNv) / 2 - z) := by rw [ab_mul, ab_of_nonneg hM0]
    have b1 := ab_add (pv - dv * (1 - ((xv + xNv) / 2 - z))) (dv * (1 - ((xv + xNv) / 2 - z)))
    have b2 := ab_add (qv - dv * ((xv + xNv) / 2 - z)) (dv * ((xv + xNv) / 2 - z))
    rw [show pv - dv * (1 - ((xv + xNv) / 2 - z)) + dv * (1 - ((xv + xNv) / 2 - z)) = pv by grind] at b1
    rw [show qv - dv * ((xv + xNv) / 2 - z) + dv * ((xv + xNv) / 2 - z) = qv by grind] at b2
    unfold mass mass mass
    grind
  · simp only [List.length_cons, List.length_nil]
    push_cast
    split <;> grind
  · intro th
    have hmean : mean ((if xNv < xv then xNv else xv) - th) ((if xNv < xv then xv else xNv) - th) = mean (xv - th) (xNv - th) := by
      split
      · exact mean_symm _ _
      · rfl
    rw [hmean]
    unfold upto upto upto
    by_cases c1 : z ≤ th
    · by_cases c2 : z + 1 ≤ th
      · have hth : ((z + 1 : Int) : Rat) ≤ th := Rat.intCast_le_intCast.2 c2
        rw [Rat.intCast_add] at hth
        have hth1 : (z : Rat) + 1 ≤ th := hth
        rw [if_pos c1, if_pos c2, mean_low (by grind) (by grind), ab_le]; grind
      · obtain rfl : th = z := by omega
        rw [if_pos c1, if_neg c2, mean_mid (by grind) (by grind) (by grind) (by grind), ab_le]; grind
    · have hth : (((th + 1 : Int)) : Rat) ≤ z := Rat.intCast_le_intCast.2 (by omega)
      rw [Rat.intCast_add] at hth
      have hth1 : (th : Rat) + 1 ≤ z := hth
      rw [if_neg c1, if_neg (show ¬ z + 1 ≤ th by omega), mean_high (by grind) (by grind), ab_le]; grind
  · unfold all all all
    rw [ab_le]; grind
  · intro n base W b
    have E1 : add32 x xN = some s := e1
    have E2 : mul32 wHalf s = some h := e2
    have E3 : sub32 h (of32 z) = some m := e3
    have E4 : mul32 d m = some q := e4
    have E5 : sub32 d q = some p := e5
    unfold rowNear subMul
    simp only [E1, E2, E3, E4, E5, Option.bind_some]
    show _ = (bump n base W z (some p) b).bind (fun b1 => (bump n base W (z + 1) (some q) b1).bind fun b2 => some b2)
    congr 1
    funext b1
    cases bump n base W (z + 1) (some q) b1 <;> rfl
end Go.Proofs.Ytmgcbodlolnheaa
