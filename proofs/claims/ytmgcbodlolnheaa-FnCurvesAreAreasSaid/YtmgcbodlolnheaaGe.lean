/- A way whose points are not quite where they should be. No program is in sight. -/
import Derived.Test.YtmgcbodlolnheaaGd
namespace Go.Proofs.Ytmgcbodlolnheaa

/-- How much cl of a way goes up and down. -/
def vary (b : Nat → Rat) (n : Nat) : Rat := sm (fun m => ab (cl (b (m + 1)) - cl (b m))) n

theorem way_near_x {x x' y : Nat → Rat} {n : Nat} {d : Rat} (h : ∀ m, m ≤ n → ab (x' m - x m) ≤ d) : ab (way x' y n - way x y n) ≤ d * vary y n := by
  have e : way x' y n - way x y n = sm (fun m => J (x' m) (y m) (x' (m + 1)) (y (m + 1)) - J (x m) (y m) (x (m + 1)) (y (m + 1))) n := (sm_sub _ _ _).symm
  rw [e]
  unfold vary
  rw [← sm_mul]
  exact Rat.le_trans (sm_ab _ _) (sm_le fun m hm => J_near (h m (by omega)) (h (m + 1) (by omega)))

theorem way_near_y {x y y' : Nat → Rat} {n : Nat} {d : Rat} (h : ∀ m, m ≤ n → ab (y' m - y m) ≤ d) (h0 : y' 0 = y 0) (hn : y' n = y n) : ab (way x y' n - way x y n) ≤ d * vary x n := by
  have h1 := way_near_x (y := x) h
  rw [way_swap x y', way_swap x y, h0, hn, ← ab_neg]
  rw [show -(cl (x n) * cl (y n) - cl (x 0) * cl (y 0) - way y' x n - (cl (x n) * cl (y n) - cl (x 0) * cl (y 0) - way y x n)) = way y' x n - way y x n by grind]
  exact h1

theorem vary_near {x x' : Nat → Rat} {n : Nat} {d : Rat} (h : ∀ m, m ≤ n → ab (x' m - x m) ≤ d) : vary x' n ≤ vary x n + 2 * (n * d) := by
  have h1 : vary x' n ≤ sm (fun m => ab (cl (x (m + 1)) - cl (x m)) + 2 * d) n := by
    refine sm_le fun m hm => ?_
    have a := ab_cl (x m) (x' m)
    have b := ab_cl (x (m + 1)) (x' (m + 1))
    have c := h m (by omega)
    have e := h (m + 1) (by omega)
    have k1 := ab_add (cl (x' (m + 1)) - cl (x (m + 1))) (cl (x (m + 1)) - cl (x m))
    have k2 := ab_sub (cl (x' (m + 1)) - cl (x (m + 1)) + (cl (x (m + 1)) - cl (x m))) (cl (x' m) - cl (x m))
    rw [show cl (x' (m + 1)) - cl (x (m + 1)) + (cl (x (m + 1)) - cl (x m)) - (cl (x' m) - cl (x m)) = cl (x' (m + 1)) - cl (x' m) by grind] at k2
    grind
  rw [sm_add, sm_const] at h1
  unfold vary at *
  grind

theorem way_vertices {x y x' y' : Nat → Rat} {n : Nat} {d : Rat} (hd : 0 ≤ d) (hx : ∀ m, m ≤ n → ab (x' m - x m) ≤ d) (hy : ∀ m, m ≤ n → ab (y' m - y m) ≤ d)
    (ox : Once x) (oy : Once y) (h0 : y' 0 = y 0) (hn : y' n = y n) : ab (way x' y' n - way x y n) ≤ d * (4 + 2 * (n * d)) := by
  have h1 := way_near_x (y := y) hx
  have h2 := way_near_y (x := x') hy h0 hn
  have v1 : vary y n ≤ 2 := once_var oy n
  have v2 : vary x n ≤ 2 := once_var ox n
  have v3 := vary_near hx
  have m1 := mul_le_mul_l v1 hd
  have m2 := mul_le_mul_l (show vary x' n ≤ 2 + 2 * (n * d) by grind) hd
  have k := ab_add (way x' y n - way x y n) (way x' y' n - way x' y n)
  rw [show way x' y n - way x y n + (way x' y' n - way x' y n) = way x' y' n - way x y n by grind] at k
  grind
end Go.Proofs.Ytmgcbodlolnheaa
