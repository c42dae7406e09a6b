/- The operations of Go's float32 and float64, said of the numbers that the words stand for. No program is in sight. -/
import Derived.Test.YtmgcbodlolnheaaFb
namespace Go.Proofs.Ytmgcbodlolnheaa
open Ieee

abbrev F32 (w : Nat) (v : Rat) : Prop := Fv Ieee.single w v
abbrev F64 (w : Nat) (v : Rat) : Prop := Fv Ieee.double w v

def u32 : Rat := 1 / 16777216
def u64 : Rat := 1 / 9007199254740992

theorem p2_negNat (n : Nat) : p2 (-(n : Int)) = 1 / ((2 ^ n : Nat) : Rat) := by
  have h := p2_neg n
  rw [p2_nat] at h
  have : ((2 ^ n : Nat) : Rat) ≠ 0 := by
    have := Nat.two_pow_pos n
    intro h; have : 2 ^ n = 0 := by exact_mod_cast h
    omega
  grind

theorem u32_eq : p2 (-(single.fractionBits : Int) - 1) = u32 := by
  exact (p2_negNat 24).trans (by decide +kernel)
theorem u64_eq : p2 (-(double.fractionBits : Int) - 1) = u64 := by
  exact (p2_negNat 53).trans (by decide +kernel)
theorem q32_eq : p2 (-(single.fractionBits : Int) - 2) = u32 / 2 := by
  exact (p2_negNat 25).trans (by decide +kernel)
theorem q64_eq : p2 (-(double.fractionBits : Int) - 2) = u64 / 2 := by
  exact (p2_negNat 54).trans (by decide +kernel)
theorem top32 : topOf single = 127 := by decide +kernel
theorem top64 : topOf double = 1023 := by decide +kernel
theorem least32 : single.leastPlace = -149 := by decide +kernel
theorem least64 : double.leastPlace = -1074 := by decide +kernel

/-- What is no greater than this does not overflow. -/
def huge : Rat := p2 120
theorem huge_lt32 : huge < p2 (topOf single) := by
  rw [top32]; unfold huge
  have : p2 127 = p2 120 * p2 7 := by rw [← p2_add]; rfl
  rw [this]
  have h1 := p2_pos 120
  have h2 : p2 7 = 128 := by have := p2_nat 7; exact this.trans (by decide +kernel)
  rw [h2]; grind
theorem huge2_lt32 {x : Rat} (h : x ≤ huge) : 2 * x < p2 (topOf single) := by
  rw [top32]; unfold huge at h
  have : p2 127 = p2 120 * p2 7 := by rw [← p2_add]; rfl
  rw [this]
  have h1 := p2_pos 120
  have h2 : p2 7 = 128 := by have := p2_nat 7; exact this.trans (by decide +kernel)
  rw [h2]; grind
theorem huge_pos : 0 < huge := p2_pos _
theorem p2_120_1023 : p2 1023 = huge * p2 903 := by unfold huge; rw [← p2_add]; rfl
theorem huge2_lt64 {x : Rat} (h : x ≤ huge) : 2 * x < p2 (topOf double) := by
  rw [top64, p2_120_1023]
  have h1 := huge_pos
  have h2 : 4 ≤ p2 903 := by
    have h3 := p2_mono (show (2 : Int) ≤ 903 by omega)
    have h4 : p2 2 = 4 := by have := p2_nat 2; exact this.trans (by decide +kernel)
    grind
  have := Rat.mul_le_mul_of_nonneg_left h2 (Rat.le_of_lt h1)
  grind
theorem huge_lt64 : huge < p2 (topOf double) := by
  have := huge2_lt64 (Rat.le_refl (a := huge))
  have := huge_pos
  grind
theorem le_huge {x : Rat} (h : x ≤ 1000000000000) : x ≤ huge := by
  refine Rat.le_trans h ?_
  unfold huge
  have := p2_nat 120
  rw [show (120 : Int) = ((120 : Nat) : Int) from rfl, this]; decide +kernel

/-- Half a unit of the least place of float32. -/
def tiny32 : Rat := p2 (-149)
def tiny64 : Rat := p2 (-1074)
theorem tiny32_pos : 0 < tiny32 := p2_pos _
theorem tiny64_pos : 0 < tiny64 := p2_pos _
theorem tiny32_le : tiny32 ≤ 1 / 1000000000000000000000000000000 := by
  unfold tiny32; rw [show (-149 : Int) = -((149 : Nat) : Int) from rfl, p2_negNat]; decide +kernel
theorem tiny64_le : tiny64 ≤ 1 / 1000000000000000000000000000000 := by
  unfold tiny64; rw [show (-1074 : Int) = -((1074 : Nat) : Int) from rfl, p2_negNat]; decide +kernel

theorem ieee_eb32 : 2 ≤ single.exponentBits := by decide
theorem ieee_eb64 : 2 ≤ double.exponentBits := by decide

theorem sum_mult {f : Format} {x y : Nat} {a b : Rat} (hx : Fv f x a) (hy : Fv f y b) : ∃ k : Int, a + b = k * p2 f.leastPlace := by
  obtain ⟨k, rfl⟩ := hx.mult
  obtain ⟨l, rfl⟩ := hy.mult
  exact ⟨k + l, by rw [Rat.intCast_add]; grind⟩
theorem dif_mult {f : Format} {x y : Nat} {a b : Rat} (hx : Fv f x a) (hy : Fv f y b) : ∃ k : Int, a - b = k * p2 f.leastPlace := by
  obtain ⟨k, rfl⟩ := hx.mult
  obtain ⟨l, rfl⟩ := hy.mult
  exact ⟨k - l, by rw [Rat.intCast_sub]; grind⟩

section
variable {x y : Nat} {a b : Rat}

theorem f32_add (hx : F32 x a) (hy : F32 y b) (h : ab (a + b) ≤ huge) :
    ∃ r c, floatBits .add .f32 x y = some r ∧ F32 r c ∧ Rounds single (a + b) c ∧ ab (c - (a + b)) ≤ u32 * ab (a + b) := by
  obtain ⟨r, c, h1, h2, h3⟩ := add_spec ieee_eb32 hx hy (rlt_of_le_of_lt h huge_lt32)
  have := h3.rel (sum_mult hx hy)
  rw [u32_eq] at this
  exact ⟨r, c, h1, h2, h3, this⟩
theorem f32_sub (hx : F32 x a) (hy : F32 y b) (h : ab (a - b) ≤ huge) :
    ∃ r c, floatBits .sub .f32 x y = some r ∧ F32 r c ∧ Rounds single (a - b) c ∧ ab (c - (a - b)) ≤ u32 * ab (a - b) := by
  obtain ⟨r, c, h1, h2, h3⟩ := sub_spec ieee_eb32 hx hy (rlt_of_le_of_lt h huge_lt32)
  have := h3.rel (dif_mult hx hy)
  rw [u32_eq] at this
  exact ⟨r, c, h1, h2, h3, this⟩
theorem f32_mul (hx : F32 x a) (hy : F32 y b) (h : ab (a * b) ≤ huge) :
    ∃ r c, floatBits .mul .f32 x y = some r ∧ F32 r c ∧ Rounds single (a * b) c ∧ ab (c - a * b) ≤ u32 * ab (a * b) + tiny32 := by
  obtain ⟨r, c, h1, h2, h3⟩ := mul_spec ieee_eb32 hx hy (rlt_of_le_of_lt h huge_lt32)
  have := h3.near
  rw [u32_eq, least32] at this
  exact ⟨r, c, h1, h2, h3, this⟩
theorem f32_div (hx : F32 x a) (hy : F32 y b) (hb : b ≠ 0) (h : ab (a / b) ≤ huge) :
    ∃ r c, floatBits .quo .f32 x y = some r ∧ F32 r c ∧ ab (c - a / b) ≤ 2 * u32 * ab (a / b) + tiny32 := by
  obtain ⟨r, c, e, h1, h2, h3, h4, _⟩ := div_spec ieee_eb32 hx hy hb (huge2_lt32 h)
  have h5 := h3.near
  rw [u32_eq, least32] at h5
  rw [q32_eq] at h4
  refine ⟨r, c, h1, h2, ?_⟩
  have h6 := ab_add (c - e) (e - a / b)
  have h7 := ab_add (e - a / b) (a / b)
  rw [show c - e + (e - a / b) = c - a / b by grind] at h6
  rw [show e - a / b + a / b = e by grind] at h7
  have h8 : ab e ≤ (1 + u32 / 2) * ab (a / b) := by grind
  have h9 := Rat.mul_le_mul_of_nonneg_left h8 (show 0 ≤ u32 by decide +kernel)
  have h10 := ab_nonneg (a / b)
  have h11 : u32 * ((1 + u32 / 2) * ab (a / b)) + u32 / 2 * ab (a / b) ≤ 2 * u32 * ab (a / b) := by
    have : (u32 * (1 + u32 / 2) + u32 / 2) * ab (a / b) ≤ (2 * u32) * ab (a / b) := Rat.mul_le_mul_of_nonneg_right (by decide +kernel) h10
    grind
  show ab (c - a / b) ≤ 2 * u32 * ab (a / b) + p2 (-149)
  grind

theorem f64_add (hx : F64 x a) (hy : F64 y b) (h : ab (a + b) ≤ huge) :
    ∃ r c, floatBits .add .f64 x y = some r ∧ F64 r c ∧ Rounds double (a + b) c ∧ ab (c - (a + b)) ≤ u64 * ab (a + b) := by
  obtain ⟨r, c, h1, h2, h3⟩ := add_spec ieee_eb64 hx hy (rlt_of_le_of_lt h huge_lt64)
  have := h3.rel (sum_mult hx hy)
  rw [u64_eq] at this
  exact ⟨r, c, h1, h2, h3, this⟩
theorem f64_sub (hx : F64 x a) (hy : F64 y b) (h : ab (a - b) ≤ huge) :
    ∃ r c, floatBits .sub .f64 x y = some r ∧ F64 r c ∧ Rounds double (a - b) c ∧ ab (c - (a - b)) ≤ u64 * ab (a - b) := by
  obtain ⟨r, c, h1, h2, h3⟩ := sub_spec ieee_eb64 hx hy (rlt_of_le_of_lt h huge_lt64)
  have := h3.rel (dif_mult hx hy)
  rw [u64_eq] at this
  exact ⟨r, c, h1, h2, h3, this⟩
theorem f64_mul (hx : F64 x a) (hy : F64 y b) (h : ab (a * b) ≤ huge) :
    ∃ r c, floatBits .mul .f64 x y = some r ∧ F64 r c ∧ Rounds double (a * b) c ∧ ab (c - a * b) ≤ u64 * ab (a * b) + tiny64 := by
  obtain ⟨r, c, h1, h2, h3⟩ := mul_spec ieee_eb64 hx hy (rlt_of_le_of_lt h huge_lt64)
  have := h3.near
  rw [u64_eq, least64] at this
  exact ⟨r, c, h1, h2, h3, this⟩
theorem f64_div (hx : F64 x a) (hy : F64 y b) (hb : b ≠ 0) (h : ab (a / b) ≤ huge) :
    ∃ r c, floatBits .quo .f64 x y = some r ∧ F64 r c ∧ ab (c - a / b) ≤ 2 * u64 * ab (a / b) + tiny64 := by
  obtain ⟨r, c, e, h1, h2, h3, h4, _⟩ := div_spec ieee_eb64 hx hy hb (huge2_lt64 h)
  have h5 := h3.near
  rw [u64_eq, least64] at h5
  rw [q64_eq] at h4
  refine ⟨r, c, h1, h2, ?_⟩
  have h6 := ab_add (c - e) (e - a / b)
  have h7 := ab_add (e - a / b) (a / b)
  rw [show c - e + (e - a / b) = c - a / b by grind] at h6
  rw [show e - a / b + a / b = e by grind] at h7
  have h8 : ab e ≤ (1 + u64 / 2) * ab (a / b) := by grind
  have h9 := Rat.mul_le_mul_of_nonneg_left h8 (show 0 ≤ u64 by decide +kernel)
  have h10 := ab_nonneg (a / b)
  have h11 : u64 * ((1 + u64 / 2) * ab (a / b)) + u64 / 2 * ab (a / b) ≤ 2 * u64 * ab (a / b) := by
    have : (u64 * (1 + u64 / 2) + u64 / 2) * ab (a / b) ≤ (2 * u64) * ab (a / b) := Rat.mul_le_mul_of_nonneg_right (by decide +kernel) h10
    grind
  show ab (c - a / b) ≤ 2 * u64 * ab (a / b) + p2 (-1074)
  grind

theorem f32_order (hx : F32 x a) (hy : F32 y b) : FloatKind.f32.format.order x y = some (if a < b then .lt else if a = b then .eq else .gt) := order_spec hx hy
theorem f64_order (hx : F64 x a) (hy : F64 y b) : FloatKind.f64.format.order x y = some (if a < b then .lt else if a = b then .eq else .gt) := order_spec hx hy
end

/-- A whole number of at most 24 digits is a float32. -/
theorem f32_ofInt (n : Int) (h : n.natAbs < 2 ^ 24) : F32 (floatOfInt .f32 n) n := by
  have hnum : num (decide (n < 0)) n.natAbs 0 = n := by
    have := num_of_int n (decide (n < 0)) 0
    rw [p2_zero, Rat.mul_one] at this
    rw [← this]; congr 1
    by_cases h0 : n = 0 <;> simp [h0]
  have hlt : (n.natAbs : Rat) < 16777216 := by exact_mod_cast h
  obtain ⟨c, hc, hr⟩ := nearest_rounds single ieee_eb32 (decide (n < 0)) n.natAbs 0 (by
    rw [p2_zero, Rat.mul_one]
    refine rlt_of_le_of_lt (le_huge ?_) huge_lt32
    grind)
  rw [hnum] at hr
  have := hr.exact n 0 (by rw [least32]; omega) (by
    rw [ab_int]
    have h9 : p2 (single.fractionBits + 1) = 16777216 := by have := p2_nat 24; exact this.trans (by decide +kernel)
    rw [h9]; exact hlt) (by rw [p2_zero, Rat.mul_one])
  rw [this] at hc
  exact hc
theorem f64_ofInt (n : Int) (h : n.natAbs < 2 ^ 53) : F64 (floatOfInt .f64 n) n := by
  have hnum : num (decide (n < 0)) n.natAbs 0 = n := by
    have := num_of_int n (decide (n < 0)) 0
    rw [p2_zero, Rat.mul_one] at this
    rw [← this]; congr 1
    by_cases h0 : n = 0 <;> simp [h0]
  have hlt : (n.natAbs : Rat) < 9007199254740992 := by exact_mod_cast h
  obtain ⟨c, hc, hr⟩ := nearest_rounds double ieee_eb64 (decide (n < 0)) n.natAbs 0 (by
    rw [p2_zero, Rat.mul_one]
    refine rlt_of_le_of_lt ?_ huge_lt64
    refine Rat.le_trans (Rat.le_of_lt hlt) ?_
    unfold huge
    have := p2_nat 120
    rw [show (120 : Int) = ((120 : Nat) : Int) from rfl, this]; decide +kernel)
  rw [hnum] at hr
  have := hr.exact n 0 (by rw [least64]; omega) (by
    rw [ab_int]
    have h9 : p2 (double.fractionBits + 1) = 9007199254740992 := by have := p2_nat 53; exact this.trans (by decide +kernel)
    rw [h9]; exact hlt) (by rw [p2_zero, Rat.mul_one])
  rw [this] at hc
  exact hc

/-- A float32 as a float64: the same number. -/
theorem f32_to64 {x : Nat} {a : Rat} (hx : F32 x a) (h : ab a ≤ huge) : ∃ r, floatToFloatBits .f32 x .f64 = some r ∧ F64 r a := by
  obtain ⟨s, m, e, h1, rfl⟩ := hx
  obtain ⟨g1, g2, _⟩ := read_form x s m e h1
  rw [least32] at g1
  have hm : m < 16777216 := g2
  obtain ⟨c, hc, hr⟩ := nearest_rounds double ieee_eb64 s m e (num_lt_top rfl (rlt_of_le_of_lt h huge_lt64))
  have hce : c = num s m e := hr.exact ((if s then -1 else 1) * m) e (by rw [least64]; omega) (by
    rw [ab_int]
    have h9 : p2 (double.fractionBits + 1) = 9007199254740992 := by have := p2_nat 53; exact this.trans (by decide +kernel)
    rw [h9]
    have : ((if s then -1 else 1) * (m : Int)).natAbs = m := by cases s <;> simp
    rw [this]
    have : (m : Rat) < 16777216 := by exact_mod_cast hm
    grind) (by
    unfold num
    cases s
    · simp only [Bool.false_eq_true, if_false, Rat.intCast_mul, Rat.intCast_natCast]; rw [show ((1 : Int) : Rat) = 1 from rfl]; grind
    · simp only [if_true, Rat.intCast_mul, Rat.intCast_natCast]; rw [show ((-1 : Int) : Rat) = -1 from rfl]; grind)
  rw [hce] at hc
  refine ⟨_, ?_, hc⟩
  unfold floatToFloatBits
  have hd : FloatKind.f32.decode x = .number s m e := h1
  rw [if_neg (by decide), hd]
  have hinf : (FloatKind.f64.decode (FloatKind.f64.encode (.number s m e))).isInfinity = false := by
    obtain ⟨s', m', e', h5, _⟩ := hc
    show (double.read (double.nearest s m e)).isInfinity = false
    rw [h5]; rfl
  simp only [hinf, Bool.false_eq_true, if_false]
  rfl
end Go.Proofs.Ytmgcbodlolnheaa
