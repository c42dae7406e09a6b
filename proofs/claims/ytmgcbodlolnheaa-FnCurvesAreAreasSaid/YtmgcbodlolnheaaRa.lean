/- The model's operations on words, said of the numbers that the words stand for: comparisons, whole parts, constants. No program is in sight. -/
import Derived.Test.YtmgcbodlolnheaaGa
import Derived.Test.YtmgcbodlolnheaaModel
namespace Go.Proofs.Ytmgcbodlolnheaa
open Ieee

theorem toInt_whole {s : Bool} {m : Nat} {e : Int} {n : Int} (h : num s m e = n) : (Datum.number s m e).toInt .zero = some n := by
  have hp : 0 ≤ num false m e := by
    unfold num; simp only [Bool.false_eq_true, if_false, Rat.one_mul]
    exact Rat.mul_nonneg (Rat.natCast_nonneg) (Rat.le_of_lt (p2_pos e))
  have h0 := toInt_zero hp
  cases s with
  | false =>
    rw [h0, h, Rat.floor_intCast]
  | true =>
    have hv : num false m e = ((-n : Int) : Rat) := by
      have : num true m e = - num false m e := by unfold num; simp only [Bool.false_eq_true, if_false, if_true]; grind
      rw [Rat.intCast_neg, ← h, this]; grind
    rw [hv, Rat.floor_intCast] at h0
    unfold Datum.toInt Datum.integral at h0 ⊢
    dsimp only at h0 ⊢
    have hc : Toward.zero.cut true (m <<< e.toNat) (-e).toNat = Toward.zero.cut false (m <<< e.toNat) (-e).toNat := by rw [cut_trunc, cut_trunc]
    rw [hc]
    generalize Toward.zero.cut false (m <<< e.toNat) (-e).toNat = K at h0 ⊢
    unfold signed at h0 ⊢
    simp only [Bool.false_eq_true, if_false, Nat.shiftLeft_zero, Option.some.injEq, if_true] at h0 ⊢
    omega

/-- A float64's word for a whole number. -/
theorem write_whole {s : Bool} {m : Nat} {n : Int} (h : num s m 0 = n) (hn : n.natAbs < 2 ^ 53) : F64 (FloatKind.f64.encode (.number s m 0)) n := by
  have hab : (m : Rat) * p2 0 = (n.natAbs : Rat) := by rw [← ab_num s m 0, h, ab_int]
  have hlt : (n.natAbs : Rat) < 9007199254740992 := by exact_mod_cast hn
  obtain ⟨c, hc, hr⟩ := nearest_rounds double ieee_eb64 s m 0 (by
    rw [hab]
    refine rlt_of_le_of_lt ?_ huge_lt64
    refine Rat.le_trans (Rat.le_of_lt hlt) ?_
    unfold huge
    have := p2_nat 120
    rw [show (120 : Int) = ((120 : Nat) : Int) from rfl, this]; decide +kernel)
  rw [h] at hr
  have := hr.exact n 0 (by rw [least64]; omega) (by
    rw [ab_int]
    have h9 : p2 (double.fractionBits + 1) = 9007199254740992 := by have := p2_nat 53; exact this.trans (by decide +kernel)
    rw [h9]; exact hlt) (by rw [p2_zero, Rat.mul_one])
  rw [this] at hc
  exact hc

theorem wholeI_ok {x : Nat} {a : Rat} (hx : F32 x a) (h : ab a ≤ 900000) (way : Toward) (n : Int) (hn : -900001 ≤ n ∧ n ≤ 900001)
    (hway : ∀ s m e, num s m e = a → ∃ s' m', (Datum.number s m e).integral way = .number s' m' 0 ∧ num s' m' 0 = n) : wholeI way x = some n := by
  obtain ⟨y, hy, hyv⟩ := f32_to64 hx (Rat.le_trans h (le_huge (by decide +kernel)))
  unfold wholeI
  rw [hy]
  obtain ⟨s, m, e, hr, hv⟩ := hyv
  have hd : FloatKind.f64.decode y = .number s m e := hr
  obtain ⟨s', m', hi, hv'⟩ := hway s m e hv
  have hw := write_whole hv' (by omega)
  obtain ⟨s2, m2, e2, hr2, hv2⟩ := hw
  have hd2 : FloatKind.f64.decode (FloatKind.f64.encode (.number s' m' 0)) = .number s2 m2 e2 := hr2
  simp only [hd, hi, Datum.isNaN, Bool.false_eq_true, if_false]
  unfold floatToIntVal
  rw [hd2, toInt_whole hv2]
  have h1 : (IntKind.i32.min ≤ n ∧ n ≤ IntKind.i32.max) := by
    have e1 : IntKind.i32.min = -2147483648 := by decide
    have e2 : IntKind.i32.max = 2147483647 := by decide
    omega
  simp only [h1, and_self, if_true]
  unfold small
  rw [if_pos (by omega)]

theorem c900 : ((900001 : Int) : Rat) = 900001 := by decide +kernel
theorem c900n : ((-900001 : Int) : Rat) = -900001 := by decide +kernel

theorem int_bounds {z : Int} {b : Rat} {B : Int} (h : (z : Rat) ≤ b) (hb : b ≤ B) : z ≤ B := by
  have : (z : Rat) ≤ B := Rat.le_trans h hb
  exact_mod_cast this

theorem floorI_ok {x : Nat} {a : Rat} (hx : F32 x a) (h : ab a ≤ 900000) : floorI x = some a.floor := by
  have h' := ab_le.1 h
  have h1 : (a.floor : Rat) ≤ a := Rat.floor_le a
  have h2 : a < a.floor + 1 := Rat.lt_floor_add_one a |> fun h => by rw [Rat.intCast_add] at h; exact h
  refine wholeI_ok hx h .down _ ⟨?_, ?_⟩ ?_
  · have : ((-900001 : Int) : Rat) ≤ (a.floor : Rat) := by rw [c900n]; grind
    exact Rat.intCast_le_intCast.1 this
  · have : (a.floor : Rat) ≤ ((900001 : Int) : Rat) := by rw [c900]; grind
    exact Rat.intCast_le_intCast.1 this
  · rintro s m e rfl
    exact integral_down

theorem ceilI_ok {x : Nat} {a : Rat} (hx : F32 x a) (h : ab a ≤ 900000) : ceilI x = some a.ceil := by
  have h' := ab_le.1 h
  have e : (a.ceil : Rat) = -((-a).floor : Rat) := by rw [Rat.ceil_eq_neg_floor_neg, Rat.intCast_neg]
  have h1 : ((-a).floor : Rat) ≤ -a := Rat.floor_le (-a)
  have h2 : -a < (-a).floor + 1 := Rat.lt_floor_add_one (-a) |> fun h => by rw [Rat.intCast_add] at h; exact h
  refine wholeI_ok hx h .up _ ⟨?_, ?_⟩ ?_
  · have : ((-900001 : Int) : Rat) ≤ (a.ceil : Rat) := by rw [c900n]; grind
    exact Rat.intCast_le_intCast.1 this
  · have : (a.ceil : Rat) ≤ ((900001 : Int) : Rat) := by rw [c900]; grind
    exact Rat.intCast_le_intCast.1 this
  · rintro s m e rfl
    exact integral_up

section
variable {x y : Nat} {a b : Rat}
theorem lt32_eq (hx : F32 x a) (hy : F32 y b) : lt32 x y = decide (a < b) := by
  unfold lt32; rw [f32_order hx hy]
  by_cases h : a < b
  · simp [h]
  · by_cases e : a = b
    · subst e; simp
    · simp [h, e]
theorem gt32_eq (hx : F32 x a) (hy : F32 y b) : gt32 x y = decide (b < a) := by
  unfold gt32; rw [f32_order hx hy]
  by_cases h : a < b
  · have : ¬ b < a := by grind
    simp [h, this]
  · by_cases e : a = b
    · subst e; simp
    · have : b < a := by grind
      simp [h, e, this]
theorem le32_eq (hx : F32 x a) (hy : F32 y b) : le32 x y = decide (a ≤ b) := by
  unfold le32; rw [f32_order hx hy]
  by_cases h : a < b
  · have : a ≤ b := by grind
    simp [h, this]
  · by_cases e : a = b
    · subst e; simp
    · have : ¬ a ≤ b := by grind
      simp [h, e, this]
theorem ge32_eq (hx : F32 x a) (hy : F32 y b) : ge32 x y = decide (b ≤ a) := by
  unfold ge32; rw [f32_order hx hy]
  by_cases h : a < b
  · have : ¬ b ≤ a := by grind
    simp [h, this]
  · by_cases e : a = b
    · subst e; simp
    · have : b ≤ a := by grind
      simp [h, e, this]
theorem lt64_eq (hx : F64 x a) (hy : F64 y b) : lt64 x y = decide (a < b) := by
  unfold lt64; rw [f64_order hx hy]
  by_cases h : a < b
  · simp [h]
  · by_cases e : a = b
    · subst e; simp
    · simp [h, e]
theorem gt64_eq (hx : F64 x a) (hy : F64 y b) : gt64 x y = decide (b < a) := by
  unfold gt64; rw [f64_order hx hy]
  by_cases h : a < b
  · have : ¬ b < a := by grind
    simp [h, this]
  · by_cases e : a = b
    · subst e; simp
    · have : b < a := by grind
      simp [h, e, this]
theorem le64_eq (hx : F64 x a) (hy : F64 y b) : le64 x y = decide (a ≤ b) := by
  unfold le64; rw [f64_order hx hy]
  by_cases h : a < b
  · have : a ≤ b := by grind
    simp [h, this]
  · by_cases e : a = b
    · subst e; simp
    · have : ¬ a ≤ b := by grind
      simp [h, e, this]
theorem ge64_eq (hx : F64 x a) (hy : F64 y b) : ge64 x y = decide (b ≤ a) := by
  unfold ge64; rw [f64_order hx hy]
  by_cases h : a < b
  · have : ¬ b ≤ a := by grind
    simp [h, this]
  · by_cases e : a = b
    · subst e; simp
    · have : b ≤ a := by grind
      simp [h, e, this]
end

theorem of32_ok (n : Int) (h : n.natAbs < 2 ^ 24) : F32 (of32 n) n := f32_ofInt n h
theorem of64_ok (n : Int) (h : n.natAbs < 2 ^ 53) : F64 (of64 n) n := f64_ofInt n h

/-- A word read by reckoning. -/
theorem word_is {f : Format} {w : Nat} {s : Bool} {m : Nat} {e : Nat} {v : Rat} (h : f.read w = .number s m (-(e : Int))) (hv : (if s then -1 else 1) * ((m : Rat) * (1 / ((2 ^ e : Nat) : Rat))) = v) : Fv f w v :=
  ⟨s, m, -(e : Int), h, by unfold num; rw [p2_negNat]; exact hv⟩

theorem v_zero : F32 0 0 := ⟨false, 0, _, rfl, by unfold num; grind⟩
theorem v_w1 : F32 w1 1 := word_is (s := false) (m := 8388608) (e := 23) (by decide +kernel) (by decide +kernel)
theorem v_wm1 : F32 wm1 (-1) := word_is (s := true) (m := 8388608) (e := 23) (by decide +kernel) (by decide +kernel)
theorem v_wHalf : F32 wHalf (1 / 2) := word_is (s := false) (m := 8388608) (e := 24) (by decide +kernel) (by decide +kernel)
theorem v_w15 : F32 w15 (3 / 2) := word_is (s := false) (m := 12582912) (e := 23) (by decide +kernel) (by decide +kernel)
theorem v_two : F32 1073741824 2 := word_is (s := false) (m := 8388608) (e := 22) (by decide +kernel) (by decide +kernel)
def epsV : Rat := 8796093 / 8796093022208
theorem v_wEps : F32 wEps epsV := word_is (s := false) (m := 8796093) (e := 43) (by decide +kernel) (by decide +kernel)
def v333 : Rat := 11173626 / 33554432
theorem v_w333 : F32 w333 v333 := word_is (s := false) (m := 11173626) (e := 25) (by decide +kernel) (by decide +kernel)
theorem v_w64 : F32 w64 64 := word_is (s := false) (m := 8388608) (e := 17) (by decide +kernel) (by decide +kernel)
def v256 : Rat := 16777215 / 65536
theorem v_w256 : F32 w256 v256 := word_is (s := false) (m := 16777215) (e := 16) (by decide +kernel) (by decide +kernel)
theorem v64_zero : F64 0 0 := ⟨false, 0, _, rfl, by unfold num; grind⟩
theorem v_d1 : F64 d1 1 := word_is (s := false) (m := 4503599627370496) (e := 52) (by decide +kernel) (by decide +kernel)
theorem v_dm1 : F64 dm1 (-1) := word_is (s := true) (m := 4503599627370496) (e := 52) (by decide +kernel) (by decide +kernel)
theorem v_d2 : F64 d2 2 := word_is (s := false) (m := 4503599627370496) (e := 51) (by decide +kernel) (by decide +kernel)
theorem v_d3 : F64 d3 3 := word_is (s := false) (m := 6755399441055744) (e := 51) (by decide +kernel) (by decide +kernel)
theorem v_d255 : F64 d255 255 := word_is (s := false) (m := 8972014882652160) (e := 45) (by decide +kernel) (by decide +kernel)
theorem v_dFar : F64 dFar 64 := word_is (s := false) (m := 4503599627370496) (e := 46) (by decide +kernel) (by decide +kernel)
end Go.Proofs.Ytmgcbodlolnheaa
