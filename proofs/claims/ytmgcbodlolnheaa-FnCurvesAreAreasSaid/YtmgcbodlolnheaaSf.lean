/- With floating numbers, the mask of a closed path of a quadratic curve and a line back is, at each pixel, within 64 of 255 of the area that the path goes round, as the reference reckons it: FnCurvesAreAreas answers true for every input. Conditions: none beyond the given statement's own. -/
import Derived.Test.YtmgcbodlolnheaaSe
import Derived.Test.YtmgcbodlolnheaaWt
namespace Go.Proofs.Ytmgcbodlolnheaa
open Ieee

theorem psum_par (x : Nat → Int) (k : Nat) : ((psum x k 3 : Int) : Rat) / 262144 = par ((x 0 : Rat) / 64) ((x 1 : Rat) / 64 - (x 0 : Rat) / 64) ((x 0 : Rat) / 64 - 2 * ((x 1 : Rat) / 64) + (x 2 : Rat) / 64) (1 / ((64 : Nat) : Rat)) k := by
  have e64 : (1 : Rat) / ((64 : Nat) : Rat) = 1 / 64 := by decide +kernel
  rw [e64]
  simp only [psum, term, par]
  push_cast
  grind

/-- A point of the polygon, from a pixel. -/
def ptR (x : Nat → Int) (px k : Nat) : Rat := ((psum x k 3 : Int) : Rat) / 262144 - px

theorem ptR_par (x : Nat → Int) (px k : Nat) : ptR x px k = par ((x 0 : Rat) / 64 - px) ((x 1 : Rat) / 64 - (x 0 : Rat) / 64) ((x 0 : Rat) / 64 - 2 * ((x 1 : Rat) / 64) + (x 2 : Rat) / 64) (1 / ((64 : Nat) : Rat)) k := by
  unfold ptR
  rw [psum_par, par_shift]

theorem edge_at (x y : Nat → Int) (i : Nat) (hi : i < 65) : edgeAt ((List.range 65).map (crv x y)) i = ⟨psum x i 3, psum y i 3, psum x ((i + 1) % 65 : Nat) 3, psum y ((i + 1) % 65 : Nat) 3⟩ := by
  have hm : (i + 1) % 65 < 65 := Nat.mod_lt _ (by omega)
  have key : ∀ j, j < 65 → ((List.range 65).map (crv x y)).getD j (0, 0) = crv x y j := by
    intro j hj
    simp [List.getD, hj]
  have hlen : ((List.range 65).map (crv x y)).length = 65 := by simp
  unfold edgeAt
  rw [hlen, key i hi, key _ hm]
  rfl

theorem poly_sum (x y : Nat → Int) (px py : Nat) :
    sumA px py (polygonP ((List.range 65).map (crv x y))) = - closed ((x 0 : Rat) / 64) ((x 1 : Rat) / 64) ((x 2 : Rat) / 64) ((y 0 : Rat) / 64) ((y 1 : Rat) / 64) ((y 2 : Rat) / 64) px py := by
  rw [polygonP_eq, show ((List.range 65).map (crv x y)).length = 65 by simp, sumA_range]
  have e65 : sm (fun i => aE px py (edgeAt ((List.range 65).map (crv x y)) i)) 65 = sm (fun i => aE px py (edgeAt ((List.range 65).map (crv x y)) i)) 64 + aE px py (edgeAt ((List.range 65).map (crv x y)) 64) := rfl
  rw [e65]
  have h1 : sm (fun i => aE px py (edgeAt ((List.range 65).map (crv x y)) i)) 64 = sm (fun i => ((fun m => cl (ptR y py m)) (i + 1) - (fun m => cl (ptR y py m)) i) - J (ptR x px i) (ptR y py i) (ptR x px (i + 1)) (ptR y py (i + 1))) 64 := by
    refine sm_congr fun i hi => ?_
    rw [edge_at x y i (by omega), Nat.mod_eq_of_lt (by omega)]
    rfl
  have h2 : aE px py (edgeAt ((List.range 65).map (crv x y)) 64) = cl (ptR y py 0) - cl (ptR y py 64) - J (ptR x px 64) (ptR y py 64) (ptR x px 0) (ptR y py 0) := by
    rw [edge_at x y 64 (by omega)]
    rfl
  rw [h1, h2, sm_sub, sm_tele (fun m => cl (ptR y py m))]
  have h3 : sm (fun i => J (ptR x px i) (ptR y py i) (ptR x px (i + 1)) (ptR y py (i + 1))) 64 = way (ptR x px) (ptR y py) 64 := rfl
  rw [h3]
  have fx : ptR x px = par ((x 0 : Rat) / 64 - px) ((x 1 : Rat) / 64 - (x 0 : Rat) / 64) ((x 0 : Rat) / 64 - 2 * ((x 1 : Rat) / 64) + (x 2 : Rat) / 64) (1 / ((64 : Nat) : Rat)) := funext fun k => ptR_par x px k
  have fy : ptR y py = par ((y 0 : Rat) / 64 - py) ((y 1 : Rat) / 64 - (y 0 : Rat) / 64) ((y 0 : Rat) / 64 - 2 * ((y 1 : Rat) / 64) + (y 2 : Rat) / 64) (1 / ((64 : Nat) : Rat)) := funext fun k => ptR_par y py k
  have end64 : ∀ (z : Nat → Int) (q : Nat), ptR z q 64 = (z 2 : Rat) / 64 - q := by
    intro z q; rw [ptR_par, par_shift, par_last _ _ _ (by omega)]
  have end0 : ∀ (z : Nat → Int) (q : Nat), ptR z q 0 = (z 0 : Rat) / 64 - q := by
    intro z q; rw [ptR_par, par_shift, par_form, show ((0 : Nat) : Rat) = 0 from rfl]; grind
  rw [end64, end64, end0, end0]
  unfold closed
  rw [← fx, ← fy]
  grind

theorem poly_in (x y : Nat → Int) (hx : ∀ j, j < 3 → -8192 ≤ x j ∧ x j ≤ 8192) (hy : ∀ j, j < 3 → -8192 ≤ y j ∧ y j ≤ 8192) : ∀ e, e ∈ polygonP ((List.range 65).map (crv x y)) → EdgeIn e := by
  intro e he
  rw [polygonP_eq, show ((List.range 65).map (crv x y)).length = 65 by simp, List.mem_map] at he
  obtain ⟨i, hi, rfl⟩ := he
  rw [List.mem_range] at hi
  rw [edge_at x y i hi]
  have hm : (i + 1) % 65 < 65 := Nat.mod_lt _ (by omega)
  have a := psum_bound x i (by omega) hx
  have b := psum_bound y i (by omega) hy
  have c := psum_bound x ((i + 1) % 65) (by omega) hx
  have d := psum_bound y ((i + 1) % 65) (by omega) hy
  unfold EdgeIn
  dsimp only
  omega

theorem big_law : BigLaw := by
  intro W H x y hW1 hW hH1 hH hx0 hy0
  have hm : imin (W : Int) H ≤ 64 := by unfold imin; split <;> omega
  have hx : ∀ j, j < 3 → -8192 ≤ x j ∧ x j ≤ 8192 := fun j hj => by have := hx0 j hj; omega
  have hy : ∀ j, j < 3 → -8192 ≤ y j ∧ y j ≤ 8192 := fun j hj => by have := hy0 j hj; omega
  have cx := fun j (hj : j < 3) => coord_ok (x j) (hx j hj).1 (hx j hj).2
  have cy := fun j (hj : j < 3) => coord_ok (y j) (hy j hj).1 (hy j hj).2
  obtain ⟨r0, c0, f0, m0, b0⟩ := cx 0 (by omega)
  obtain ⟨r1, c1, f1, m1, b1⟩ := cx 1 (by omega)
  obtain ⟨r2, c2, f2, m2, b2⟩ := cx 2 (by omega)
  obtain ⟨s0, d0, g0, n0, e0⟩ := cy 0 (by omega)
  obtain ⟨s1, d1, g1, n1, e1⟩ := cy 1 (by omega)
  obtain ⟨s2, d2, g2, n2, e2⟩ := cy 2 (by omega)
  obtain ⟨q1, q2, B2, h1, h2, h3, h4⟩ := path_ok hW1 hH f0 g0 f1 g1 f2 g2 m0 n0 m1 n1 m2 n2 b0 e0 b1 e1 b2 e2
  obtain ⟨l, h5, h6⟩ := mask_ok hW hH h3 h4
  refine ⟨fun i => if i = 0 then r0 else if i = 1 then r1 else r2, fun i => if i = 0 then s0 else if i = 1 then s1 else s2, q1, q2, l, ?_, ?_, h1, h2, h5, ?_⟩
  · intro i hi
    obtain rfl | rfl | rfl : i = 0 ∨ i = 1 ∨ i = 2 := by omega
    · exact c0
    · exact c1
    · exact c2
  · intro i hi
    obtain rfl | rfl | rfl : i = 0 ∨ i = 1 ∨ i = 2 := by omega
    · exact d0
    · exact d1
    · exact d2
  · intro px py hpx hpy
    have hlen : (polygonP ((List.range 65).map (crv x y))).length = 65 := by simp [polygonP]
    obtain ⟨area, v, k1, k2, k3⟩ := area_ok (px := px) (py := py) (by omega) (by omega) _ hlen (poly_in x y hx hy)
    rw [poly_sum] at k3
    refine ⟨area, k1, near_ok k2 k3 ?_⟩
    rw [ab_neg]
    exact h6 px py hpx hpy

/-- The statement. -/
theorem curvesAreAreas : Rows.FnCurvesAreAreasSaid := x_of big_law
end Go.Proofs.Ytmgcbodlolnheaa
