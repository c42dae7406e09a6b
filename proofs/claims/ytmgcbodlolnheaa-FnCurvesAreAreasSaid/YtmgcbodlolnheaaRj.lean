/- What an edge adds down to a height, exactly. No program is in sight. -/
import Derived.Test.YtmgcbodlolnheaaRi
import Derived.Test.YtmgcbodlolnheaaGe
namespace Go.Proofs.Ytmgcbodlolnheaa
open Ieee

/-- A height kept within the rows up to the j-th. -/
def cz (j : Nat) (y : Rat) : Rat := if y ≤ 0 then 0 else if y ≤ j + 1 then y else j + 1

/-- What the edge adds to the pixel (i, j) down to the height h. -/
def pot (M ax ay : Rat) (i j : Nat) (h : Rat) : Rat := cz j h - cz j ay - along M (ax - i - M * (ay - j)) (cl (ay - j)) (cl (h - j))

theorem pot_self (M ax ay : Rat) (i j : Nat) : pot M ax ay i j ay = 0 := by unfold pot; rw [along_self]; grind

theorem pot_dif (M ax ay : Rat) (i j : Nat) (T B : Rat) :
    pot M ax ay i j B - pot M ax ay i j T = cz j B - cz j T - along M (ax - i - M * (ay - j)) (cl (T - j)) (cl (B - j)) := by
  have := along_add M (ax - i - M * (ay - j)) (cl (ay - j)) (cl (T - j)) (cl (B - j))
  unfold pot; grind

theorem int_le_nat {y : Int} {j : Nat} (h : y + 1 ≤ j) : (y : Rat) + 1 ≤ j := by
  have : ((y + 1 : Int) : Rat) ≤ ((j : Int) : Rat) := Rat.intCast_le_intCast.2 h
  rw [Rat.intCast_add, Rat.intCast_natCast] at this; exact this
theorem nat_le_int {y : Int} {j : Nat} (h : (j : Int) + 1 ≤ y) : (j : Rat) + 1 ≤ y := by
  have : (((j : Int) + 1 : Int) : Rat) ≤ y := Rat.intCast_le_intCast.2 h
  rw [Rat.intCast_add, Rat.intCast_natCast] at this; exact this

section
variable {M ax ay T B : Rat} {i j : Nat} {y : Int}
theorem pot_above (hB : B ≤ y + 1) (hT : T ≤ B) (hy : y < 0) : pot M ax ay i j B - pot M ax ay i j T = 0 := by
  have h0 : (y : Rat) + 1 ≤ (0 : Nat) := int_le_nat (j := 0) (by omega)
  have hj : (0 : Rat) ≤ j := by exact_mod_cast Nat.zero_le j
  have h1 : (y : Rat) + 1 ≤ 0 := h0
  rw [pot_dif, cl_low (x := T - j) (by grind), cl_low (x := B - j) (by grind), along_self]
  unfold cz; grind
theorem pot_over (h0 : (y : Rat) ≤ T) (hB : B ≤ y + 1) (hT : T ≤ B) (hy : 0 ≤ y) (hyj : y < j) : pot M ax ay i j B - pot M ax ay i j T = B - T := by
  have h2 : (0 : Rat) ≤ y := by have : ((0 : Int) : Rat) ≤ y := Rat.intCast_le_intCast.2 hy; exact this
  have h1 := int_le_nat (y := y) (j := j) (by omega)
  rw [pot_dif, cl_low (x := T - j) (by grind), cl_low (x := B - j) (by grind), along_self]
  unfold cz; grind
theorem pot_under (h0 : (y : Rat) ≤ T) (hT : T ≤ B) (hyj : (j : Int) < y) : pot M ax ay i j B - pot M ax ay i j T = 0 := by
  have h1 := nat_le_int (y := y) (j := j) (by omega)
  have hj : (0 : Rat) ≤ j := by exact_mod_cast Nat.zero_le j
  rw [pot_dif, cl_high (x := T - j) (by grind), cl_high (x := B - j) (by grind), along_self]
  unfold cz; grind
theorem pot_in (h0 : (j : Rat) ≤ T) (hB : B ≤ j + 1) (hT : T ≤ B) :
    pot M ax ay i j B - pot M ax ay i j T = (B - T) * (1 - mean (ax + M * (T - ay) - i) (ax + M * (B - ay) - i)) := by
  have hj : (0 : Rat) ≤ j := by exact_mod_cast Nat.zero_le j
  rw [pot_dif, cl_mid (x := T - j) (by grind) (by grind), cl_mid (x := B - j) (by grind) (by grind)]
  unfold along
  rw [show M * (T - j) + (ax - i - M * (ay - j)) = ax + M * (T - ay) - i by grind, show M * (B - j) + (ax - i - M * (ay - j)) = ax + M * (B - ay) - i by grind]
  unfold cz; grind
end

/-- All of it. -/
theorem pot_end {M ax ay bx byy : Rat} (i j : Nat) (h : M * (byy - ay) = bx - ax) : pot M ax ay i j byy = cz j byy - cz j ay - J (ax - i) (ay - j) (bx - i) (byy - j) := by
  unfold pot
  rw [J_line (k := M) (q := ax - i - M * (ay - j)) (by grind) (by grind)]

theorem pot_deep {M ax ay h g : Rat} (i j : Nat) (h1 : (j : Rat) + 1 ≤ h) (h2 : (j : Rat) + 1 ≤ g) : pot M ax ay i j h = pot M ax ay i j g := by
  have hj : (0 : Rat) ≤ j := by exact_mod_cast Nat.zero_le j
  unfold pot
  rw [cl_high (x := h - j) (by grind), cl_high (x := g - j) (by grind)]
  congr 2
  unfold cz; grind

/-- Between the ends of a line. -/
theorem line_between {M ax ay bx byy h C : Rat} (hM : M * (byy - ay) = bx - ax) (h0 : ay ≤ h) (h1 : h ≤ byy) (hlt : ay < byy) (ba : ab ax ≤ C) (bb : ab bx ≤ C) : ab (ax + M * (h - ay)) ≤ C := by
  have hd := div_mul_self (a := h - ay) (b := byy - ay) (by grind)
  have s0 : 0 ≤ (h - ay) / (byy - ay) := le_of_mul_le (c := byy - ay) (by grind) (by grind)
  have s1 : (h - ay) / (byy - ay) ≤ 1 := le_of_mul_le (c := byy - ay) (by grind) (by grind)
  generalize (h - ay) / (byy - ay) = s at *
  rw [ab_le] at ba bb ⊢
  have := mix_le (a := ax) (b := bx) s0 s1 ba.1 bb.1 ba.2 bb.2
  have e : ax + M * (h - ay) = ax + s * (bx - ax) := by rw [← hM, ← hd]; grind
  rw [e]; exact this
end Go.Proofs.Ytmgcbodlolnheaa
