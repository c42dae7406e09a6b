/- An edge's row over several columns: its bumps are as they should be. No program is in sight. -/
import Derived.Test.YtmgcbodlolnheaaRf
namespace Go.Proofs.Ytmgcbodlolnheaa
open Ieee

theorem rowFar_head {x0 x1 : Nat} {z y : Int} {a c S : Rat} {sw fw a0w amw : Nat} {sv fv a0 am : Rat} (H : FarHead x0 x1 z y a c S sw fw a0w amw sv fv a0 am) (n base W d : Nat) (b : Nat → Nat) :
    rowFar n base W z y d x0 x1 b = (bump n base W z (mul32 d a0w) b).bind fun b1 =>
      (if y = z + 2 then bump n base W (z + 1) (mulSub2 d a0w amw) b1
       else (sub32 w15 fw).bind fun q => (mul32 sw q).bind fun a1 => (bump n base W (z + 1) (mulSub d a1 a0w) b1).bind fun b2 => (mul32 d sw).bind fun ds =>
        (midLoop n base W ds (y - 1 - (z + 2)).toNat (z + 2) b2).bind fun b3 => (mul32 sw (of32 (y - z - 3))).bind fun k => (add32 a1 k).bind fun a2 =>
        bump n base W (y - 1) (mulSub2 d a2 amw) b3).bind fun b4 => bump n base W y (mul32 d amw) b4 := by
  unfold rowFar
  exact H.prog _

theorem A_bounds {a c S : Rat} {z y : Int} (hz0 : (z : Rat) ≤ a) (hz1 : a < z + 1) (hy0 : (y : Rat) - 1 < c) (hy1 : c ≤ y) (hzy : (z : Rat) + 2 ≤ y) (hS : S * (c - a) = 1) (hS0 : 0 ≤ S) :
    0 ≤ S * ((1 - (a - z)) * (1 - (a - z))) / 2 ∧ S * ((1 - (a - z)) * (1 - (a - z))) / 2 ≤ 1 / 2 ∧ 0 ≤ S * ((c - y + 1) * (c - y + 1)) / 2 ∧ S * ((c - y + 1) * (c - y + 1)) / 2 ≤ 1 / 2 := by
  have h1 := mul_nn hS0 (sq_nn (1 - (a - z)))
  have h2 := mul_nn hS0 (sq_nn (c - y + 1))
  have o0 : 0 ≤ 1 - (a - z) := by grind
  have e0 : 0 ≤ c - y + 1 := by grind
  have h3 := mul_le_mul_l (show 1 - (a - z) ≤ c - a by grind) hS0
  have h4 := mul_le_mul_l (show c - y + 1 ≤ c - a by grind) hS0
  rw [hS] at h3 h4
  have h5 := mul_le_mul_r h3 o0
  have h6 := mul_le_mul_r h4 e0
  refine ⟨by grind, by grind, by grind, by grind⟩

theorem chain1 {w d x X e1 e2 : Rat} (h1 : ab (w - d * x) ≤ e1) (h2 : ab (d * (x - X)) ≤ e2) : ab (w - d * X) ≤ e1 + e2 := by
  have := ab_add (w - d * x) (d * (x - X))
  rw [show w - d * x + d * (x - X) = w - d * X by grind] at this
  grind
theorem chain2 {w d x X y Y e1 e2 e3 : Rat} (h1 : ab (w - d * (1 - x - y)) ≤ e1) (h2 : ab (d * (x - X)) ≤ e2) (h3 : ab (d * (y - Y)) ≤ e3) : ab (w - d * (1 - X - Y)) ≤ e1 + e2 + e3 := by
  have a := ab_sub (w - d * (1 - x - y)) (d * (x - X))
  have b := ab_sub (w - d * (1 - x - y) - d * (x - X)) (d * (y - Y))
  rw [show w - d * (1 - x - y) - d * (x - X) - d * (y - Y) = w - d * (1 - X - Y) by grind] at b
  grind
theorem chain3 {w d x X y Y e1 e2 e3 : Rat} (h1 : ab (w - d * (x - y)) ≤ e1) (h2 : ab (d * (x - X)) ≤ e2) (h3 : ab (d * (y - Y)) ≤ e3) : ab (w - d * (X - Y)) ≤ e1 + e2 + e3 := by
  have a := ab_add (w - d * (x - y)) (d * (x - X))
  have b := ab_sub (w - d * (x - y) + d * (x - X)) (d * (y - Y))
  rw [show w - d * (x - y) + d * (x - X) - d * (y - Y) = w - d * (X - Y) by grind] at b
  grind
theorem ab_share {w d A e : Rat} (hA : 0 ≤ A) (h : ab (w - d * A) ≤ e) : ab w ≤ ab d * A + e := by
  have t0 : ab (d * A) = ab d * A := by rw [ab_mul, ab_of_nonneg hA]
  have s0 := ab_add (w - d * A) (d * A)
  rw [show w - d * A + d * A = w by grind] at s0
  grind

set_option maxHeartbeats 2000000 in
theorem far_two {x0 x1 d : Nat} {dv a c S : Rat} {z y : Int} {sw fw a0w amw : Nat} {sv fv a0 am : Rat} (H : FarHead x0 x1 z y a c S sw fw a0w amw sv fv a0 am) (hd : F32 d dv) (bd : ab dv ≤ 101 / 100)
    (hz0 : (z : Rat) ≤ a) (hz1 : a < z + 1) (hy0 : (y : Rat) - 1 < c) (hy1 : c ≤ y) (hS : S * (c - a) = 1) (hS0 : 0 ≤ S) (hy : y = z + 2) :
    ∃ L, RowOk dv a c L ∧ ∀ n base W b, rowFar n base W z y d x0 x1 b = bumps n base W L b := by
  have hu := u32_pos
  have hu2 : u32 ≤ 1 / 1000000 := by decide +kernel
  have hyq : (y : Rat) = z + 2 := by rw [hy, Rat.intCast_add]; rfl
  obtain ⟨b1, b2, b3, b4⟩ := A_bounds hz0 hz1 hy0 hy1 (by grind) hS hS0
  have M := far_mean hz0 hz1 hy0 hy1 (by omega) hS
  have hn0 := H.n0
  have hnm := H.nm
  have n0 := near_le hn0
  have nm := near_le hnm
  have E : 1 - S * ((1 - (a - z)) * (1 - (a - z))) / 2 - S * ((c - y + 1) * (c - y + 1)) / 2 = S * ((1 - (a - z)) * (1 - (1 - (a - z)) / 2) + (c - y + 1) * (1 - (c - y + 1) / 2)) := by
    have : S * (c - a) = S * ((1 - (a - z)) + (c - y + 1)) := by rw [hyq]; grind
    rw [hS] at this
    rw [show (1 : Rat) = S * ((1 - (a - z)) + (c - y + 1)) from this]; grind
  have hE0 : 0 ≤ 1 - S * ((1 - (a - z)) * (1 - (a - z))) / 2 - S * ((c - y + 1) * (c - y + 1)) / 2 := by
    rw [E]
    refine mul_nn hS0 ?_
    have := mul_nn (show 0 ≤ 1 - (a - z) by grind) (show 0 ≤ 1 - (1 - (a - z)) / 2 by grind)
    have := mul_nn (show 0 ≤ c - y + 1 by grind) (show 0 ≤ 1 - (c - y + 1) / 2 by grind)
    grind
  clear E
  generalize S * ((1 - (a - z)) * (1 - (a - z))) / 2 = A0 at *
  generalize S * ((c - y + 1) * (c - y + 1)) / 2 = Am at *
  have ba0 : ab a0 ≤ 101 / 100 := by rw [ab_le]; grind
  have bam : ab am ≤ 101 / 100 := by rw [ab_le]; grind
  obtain ⟨v0, w0, e0, f0, k0⟩ := mul_ok hd H.f0 bd ba0
  obtain ⟨v1, w1', e1, f1, k1⟩ := mulSub2_ok hd H.f0 H.fm bd ba0 bam
  obtain ⟨v2, w2, e2, f2, k2⟩ := mul_ok hd H.fm bd bam
  have g0 := ab_mul_le bd hn0
  have gm := ab_mul_le bd hnm
  have g0n := ab_le.1 g0
  have gmn := ab_le.1 gm
  have k0n := near_le k0
  have k1n := near_le k1
  have k2n := near_le k2
  refine ⟨[⟨z, v0, w0⟩, ⟨z + 1, v1, w1'⟩, ⟨y, v2, w2⟩], ⟨?_, ?_, ?_, ?_, ?_⟩, ?_⟩
  · intro p hp
    simp only [List.mem_cons, List.not_mem_nil, or_false] at hp
    rcases hp with rfl | rfl | rfl
    · exact f0
    · exact f1
    · exact f2
  · have s0 := ab_share b1 (chain1 k0 g0)
    have s1 := ab_share hE0 (chain2 k1 g0 gm)
    have s2 := ab_share b3 (chain1 k2 gm)
    show ab w0 + (ab w1' + (ab w2 + 0)) ≤ _
    clear M
    generalize ab w0 = W0 at *
    generalize ab w1' = W1 at *
    generalize ab w2 = W2 at *
    generalize ab dv = DD at *
    clear g0 gm g0n gmn k0 k1 k2 k0n k1n k2n H
    grind
  · simp only [List.length_cons, List.length_nil]
    push_cast
    grind
  · intro th
    obtain ⟨m1, m2, m3, m4, m5⟩ := M th
    show ab ((if z ≤ th then w0 else 0) + ((if z + 1 ≤ th then w1' else 0) + ((if y ≤ th then w2 else 0) + 0)) - _) ≤ _
    clear g0 gm k0 k1 k2 H
    by_cases c1 : th < z
    · rw [if_neg (by omega), if_neg (by omega), if_neg (by omega), m1 c1, ab_le]; clear m1 m2 m3 m4 m5 M; grind
    · by_cases c2 : th = z
      · rw [if_pos (by omega), if_neg (by omega), if_neg (by omega), m2 c2, ab_le]; clear m1 m2 m3 m4 m5 M; grind
      · by_cases c3 : th + 1 = y
        · rw [if_pos (by omega), if_pos (by omega), if_neg (by omega), m4 c3, ab_le]; clear m1 m2 m3 m4 m5 M; grind
        · rw [if_pos (by omega), if_pos (by omega), if_pos (by omega), m5 (by omega), ab_le]; clear m1 m2 m3 m4 m5 M; grind
  · show ab (w0 + (w1' + (w2 + 0)) - dv) ≤ _
    clear M H g0 gm k0 k1 k2
    rw [ab_le]; grind
  · intro n base W b
    rw [rowFar_head H, e0, e1, e2]
    simp only [if_pos hy]
    show _ = (bump n base W z (some v0) b).bind fun b1 => (bump n base W (z + 1) (some v1) b1).bind fun b2 => (bump n base W y (some v2) b2).bind fun b3 => some b3
    congr 1
    funext b1
    congr 1
    funext b2
    cases bump n base W y (some v2) b2 <;> rfl

end Go.Proofs.Ytmgcbodlolnheaa
