/- The numbers that the words of a binary floating format stand for, and how far a rounded result is from the exact one. No program is in sight. -/
import Derived.Laws.FloatArith
namespace Go.Proofs.Ytmgcbodlolnheaa

def p2 (e : Int) : Rat := (2 : Rat) ^ e

theorem p2_pos (e : Int) : 0 < p2 e := Rat.zpow_pos (by decide)
theorem p2_add (a b : Int) : p2 (a + b) = p2 a * p2 b := Rat.zpow_add (by decide) a b
theorem p2_zero : p2 0 = 1 := Rat.zpow_zero 2
theorem p2_nat (n : Nat) : p2 n = ((2 ^ n : Nat) : Rat) := by
  unfold p2; rw [Rat.zpow_natCast, Rat.natCast_pow]; rfl
theorem p2_one : p2 1 = 2 := Rat.zpow_one _
theorem p2_ge_one (n : Nat) : 1 ≤ p2 n := by
  rw [p2_nat]; have := Nat.two_pow_pos n; have h : (1 : Nat) ≤ 2 ^ n := this
  have := Rat.natCast_le_natCast.2 h; simpa using this
theorem p2_mono {a b : Int} (h : a ≤ b) : p2 a ≤ p2 b := by
  obtain ⟨n, rfl⟩ := Int.le.dest h
  rw [p2_add]
  have h1 := p2_ge_one n
  have h2 := p2_pos a
  have := Rat.mul_le_mul_of_nonneg_left h1 (Rat.le_of_lt h2)
  grind
theorem p2_neg (e : Int) : p2 (-e) * p2 e = 1 := by rw [← p2_add, Int.add_left_neg, p2_zero]
theorem p2_split {a b : Int} (h : a ≤ b) : p2 b = p2 a * ((2 ^ (b - a).toNat : Nat) : Rat) := by
  rw [← p2_nat, ← p2_add]; congr 1; omega
theorem p2_lt {a b : Int} (h : p2 a < p2 b) : a < b := by
  by_cases c : a < b
  · exact c
  · have := p2_mono (Int.not_lt.1 c); grind

/-- How far a number is from nothing. -/
def ab (x : Rat) : Rat := if 0 ≤ x then x else -x
theorem ab_nonneg (x : Rat) : 0 ≤ ab x := by unfold ab; grind
theorem ab_le {x b : Rat} : ab x ≤ b ↔ -b ≤ x ∧ x ≤ b := by unfold ab; grind
theorem ab_neg (x : Rat) : ab (-x) = ab x := by unfold ab; grind
theorem ab_of_nonneg {x : Rat} (h : 0 ≤ x) : ab x = x := by unfold ab; grind
theorem ab_of_nonpos {x : Rat} (h : x ≤ 0) : ab x = -x := by unfold ab; grind
theorem ab_mul (x y : Rat) : ab (x * y) = ab x * ab y := by
  by_cases hx : 0 ≤ x <;> by_cases hy : 0 ≤ y
  · rw [ab_of_nonneg hx, ab_of_nonneg hy, ab_of_nonneg (Rat.mul_nonneg hx hy)]
  · have := Rat.mul_nonneg hx (show 0 ≤ -y by grind)
    rw [ab_of_nonneg hx, ab_of_nonpos (show y ≤ 0 by grind), ab_of_nonpos (by grind)]; grind
  · have := Rat.mul_nonneg (show 0 ≤ -x by grind) hy
    rw [ab_of_nonpos (show x ≤ 0 by grind), ab_of_nonneg hy, ab_of_nonpos (by grind)]; grind
  · have := Rat.mul_nonneg (show 0 ≤ -x by grind) (show 0 ≤ -y by grind)
    rw [ab_of_nonpos (show x ≤ 0 by grind), ab_of_nonpos (show y ≤ 0 by grind), ab_of_nonneg (by grind)]; grind
theorem ab_add (x y : Rat) : ab (x + y) ≤ ab x + ab y := by unfold ab; grind
theorem ab_sub (x y : Rat) : ab (x - y) ≤ ab x + ab y := by unfold ab; grind

/-- The number of a sign, a magnitude and a place. -/
def num (s : Bool) (m : Nat) (e : Int) : Rat := (if s then -1 else 1) * ((m : Rat) * p2 e)

/-- The word w is finite and stands for v. -/
def Fv (f : Ieee.Format) (w : Nat) (v : Rat) : Prop := ∃ s m e, f.read w = .number s m e ∧ num s m e = v

theorem Fv.unique {f : Ieee.Format} {w : Nat} {a b : Rat} (h : Fv f w a) (k : Fv f w b) : a = b := by
  obtain ⟨s, m, e, h1, rfl⟩ := h
  obtain ⟨s', m', e', h2, rfl⟩ := k
  rw [h1] at h2; cases h2; rfl

/-- A cut is at most half a unit from what is cut. -/
theorem cut_near (s : Bool) (n drop : Nat) :
    2 * (Ieee.Toward.even.cut s n drop * 2 ^ drop) ≤ 2 * n + 2 ^ drop ∧ 2 * n ≤ 2 * (Ieee.Toward.even.cut s n drop * 2 ^ drop) + 2 ^ drop := by
  unfold Ieee.Toward.cut
  dsimp only
  by_cases h : drop ≤ n.log2 + 2
  · rw [Nat.min_eq_left h, Nat.one_shiftLeft]
    have hg : 0 < 2 ^ drop := Nat.two_pow_pos _
    generalize 2 ^ drop = g at hg
    have hd := Nat.div_add_mod n g
    have hm := Nat.mod_lt n hg
    generalize n / g = low at hd
    generalize n % g = rest at hd hm
    have e1 : (low + 1) * g = g * low + g := by rw [Nat.add_mul, Nat.mul_comm]; omega
    have e0 : (low + 0) * g = g * low := by rw [Nat.add_zero, Nat.mul_comm]
    have hb : ∀ more : Bool, more = (decide (g < 2 * rest) || (g == 2 * rest && low % 2 == 1)) → (more = true → g ≤ 2 * rest) ∧ (more = false → 2 * rest ≤ g) := by
      intro more hm
      subst hm
      constructor
      · intro h; simp at h; omega
      · intro h; simp at h; omega
    generalize hmore : (decide (g < 2 * rest) || (g == 2 * rest && low % 2 == 1)) = more
    have hb' := hb more hmore.symm
    cases more
    · simp only [Bool.toNat_false, e0]; have := hb'.2 rfl; omega
    · simp only [Bool.toNat_true, e1]; have := hb'.1 rfl; omega
  · have h' : n.log2 + 2 ≤ drop := by omega
    rw [Nat.min_eq_right h', Nat.one_shiftLeft]
    have hl : n < 2 ^ (n.log2 + 1) := Nat.lt_log2_self
    have e2 : 2 ^ (n.log2 + 2) = 2 * 2 ^ (n.log2 + 1) := by rw [Nat.pow_succ 2 (n.log2+1)]; omega
    have hp : 2 ^ (n.log2 + 2) ≤ 2 ^ drop := Nat.pow_le_pow_right (by omega) h'
    have hlow : n / 2 ^ (n.log2 + 2) = 0 := Nat.div_eq_of_lt (by omega)
    have hrest : n % 2 ^ (n.log2 + 2) = n := Nat.mod_eq_of_lt (by omega)
    have c1 : ¬ (2 ^ (n.log2 + 2) < 2 * n) := by omega
    have c2 : (2 ^ (n.log2 + 2) == 2 * n) = false := by simp; omega
    simp only [hlow, hrest, c1, c2, decide_false, Bool.false_and, Bool.or_false, Bool.toNat_false, Nat.add_zero, Nat.zero_mul]
    omega

/-- What lies on a place is not changed by the cut. -/
theorem cut_exact (s : Bool) (k drop : Nat) : Ieee.Toward.even.cut s (k * 2 ^ drop) drop = k := by
  have h := cut_near s (k * 2 ^ drop) drop
  have hg : 0 < 2 ^ drop := Nat.two_pow_pos _
  generalize Ieee.Toward.even.cut s (k * 2 ^ drop) drop = c at h
  generalize 2 ^ drop = g at h hg
  have h1 : c * g ≤ k * g + g / 2 := by omega
  have h2 : k * g ≤ c * g + g / 2 := by omega
  by_cases hck : c = k
  · exact hck
  · exfalso
    rcases Nat.lt_or_gt_of_ne hck with hlt | hgt
    · have : (c + 1) * g ≤ k * g := Nat.mul_le_mul_right _ hlt
      rw [Nat.add_mul] at this; omega
    · have : (k + 1) * g ≤ c * g := Nat.mul_le_mul_right _ hgt
      rw [Nat.add_mul] at this; omega

theorem cut_zero_drop (s : Bool) (n : Nat) : Ieee.Toward.even.cut s n 0 = n := by
  have := cut_exact s n 0
  simpa using this

/-- What a rung stands for. -/
theorem read_word (f : Ieee.Format) (s : Bool) {r : Nat} (h : r < f.infRung) :
    f.read (f.word s r) = if r < f.binade then .number s r f.leastPlace else .number s (f.binade + r % f.binade) (f.leastPlace + (r / f.binade - 1 : Nat)) := by
  have hs := f.infRung_lt
  have hpos : 0 < f.signWeight := Nat.two_pow_pos _
  have hneg : (f.word s r / f.signWeight % 2 == 1) = s := by
    cases s
    · simp only [Ieee.Format.word, Bool.false_eq_true, if_false]
      rw [Nat.div_eq_of_lt (by omega)]; rfl
    · simp only [Ieee.Format.word, if_true]
      rw [Nat.add_div_left _ hpos, Nat.div_eq_of_lt (by omega)]; rfl
  have hmod : f.word s r % f.signWeight = r := by
    cases s
    · simp only [Ieee.Format.word, Bool.false_eq_true, if_false]
      exact Nat.mod_eq_of_lt (by omega)
    · simp only [Ieee.Format.word, if_true]
      rw [Nat.add_mod_left]; exact Nat.mod_eq_of_lt (by omega)
  unfold Ieee.Format.read
  simp only [hneg, hmod, h, if_true]

theorem rung_value (f : Ieee.Format) (s : Bool) (q kept : Nat) (hk : kept ≤ 2 * f.binade) (hq : q = 0 ∨ f.binade ≤ kept) (h : q * f.binade + kept < f.infRung) :
    Fv f (f.word s (q * f.binade + kept)) (num s kept (f.leastPlace + q)) := by
  have hb : 0 < f.binade := Nat.two_pow_pos _
  unfold Fv
  rw [read_word f s h]
  by_cases h1 : q * f.binade + kept < f.binade
  · have hq0 : q = 0 := by
      rcases hq with hq | hq
      · exact hq
      · omega
    subst hq0
    simp only [Nat.zero_mul, Nat.zero_add] at h1 ⊢
    exact ⟨s, kept, f.leastPlace, by simp [h1], by simp⟩
  · rw [if_neg h1]
    refine ⟨_, _, _, rfl, ?_⟩
    by_cases h2 : kept = 2 * f.binade
    · have e1 : q * f.binade + kept = (q + 2) * f.binade := by rw [h2, Nat.add_mul]
      rw [e1, Nat.mul_mod_left, Nat.mul_div_cancel _ hb, Nat.add_zero]
      have e2 : f.leastPlace + ((q + 2 - 1 : Nat) : Int) = (f.leastPlace + q) + 1 := by omega
      rw [e2]
      unfold num
      rw [p2_add _ 1, p2_one, h2, Rat.natCast_mul]
      have : ((2 : Nat) : Rat) = 2 := rfl
      grind
    · have h3 : f.binade ≤ kept := by
        rcases hq with rfl | hq
        · omega
        · exact hq
      have e1 : q * f.binade + kept = (kept - f.binade) + f.binade * (q + 1) := by rw [Nat.mul_add, Nat.mul_comm f.binade q]; omega
      have hlt : kept - f.binade < f.binade := by omega
      rw [e1, Nat.add_mul_mod_self_left, Nat.add_mul_div_left _ _ hb, Nat.mod_eq_of_lt hlt, Nat.div_eq_of_lt hlt]
      congr 1
      · omega
      · omega

/-- What rounding does: with u half a unit of the last of t + 1 digits, e exact, c the result. -/
structure Rounds (f : Ieee.Format) (e c : Rat) : Prop where
  near : ab (c - e) ≤ p2 (-(f.fractionBits : Int) - 1) * ab e + p2 f.leastPlace
  rel : (∃ k : Int, e = k * p2 f.leastPlace) → ab (c - e) ≤ p2 (-(f.fractionBits : Int) - 1) * ab e
  exact : ∀ (k : Int) (g : Int), f.leastPlace ≤ g → ab k < p2 (f.fractionBits + 1) → e = k * p2 g → c = e
  keeps : ∀ (g : Int), f.leastPlace ≤ g → (∃ k : Int, e = k * p2 g) → ∃ k : Int, c = k * p2 g
  nonneg : 0 ≤ e → 0 ≤ c
  nonpos : e ≤ 0 → c ≤ 0
  half : ∀ (g : Int), f.leastPlace ≤ g → ab e < p2 (g + f.fractionBits + 1) → ab (c - e) ≤ p2 g / 2

theorem natCast_p2 (n : Nat) : ((2 ^ n : Nat) : Rat) = p2 n := (p2_nat n).symm

theorem rlt_of_le_of_lt {a b c : Rat} (h : a ≤ b) (k : b < c) : a < c := by grind

theorem cancel_right {a b c : Rat} (hc : 0 < c) (h : a * c = b * c) : a = b := by
  have : (a - b) * c = 0 := by grind
  rcases Rat.mul_eq_zero.1 this with h | h <;> grind

/-- The magnitude alone: what 'nearest' keeps, at which place. -/
theorem kept_spec (f : Ieee.Format) (s : Bool) (mag : Nat) (place : Int) (hm : mag ≠ 0) :
    let last := max (place + mag.log2 - f.fractionBits) f.leastPlace
    let kept := Ieee.Toward.even.cut s (mag <<< (place - last).toNat) (last - place).toNat
    kept ≤ 2 * f.binade ∧ (last = f.leastPlace ∨ f.binade ≤ kept) ∧
    ab (kept * p2 last - mag * p2 place) ≤ p2 last / 2 ∧ (∀ K : Nat, (mag : Rat) * p2 place = K * p2 last → kept = K) ∧
    (last = f.leastPlace ∨ p2 (last + f.fractionBits) ≤ mag * p2 place) := by
  intro last kept
  have hl1 : 2 ^ mag.log2 ≤ mag := Nat.log2_self_le hm
  have hl2 : mag < 2 ^ (mag.log2 + 1) := Nat.lt_log2_self
  have hlast1 : place + mag.log2 - f.fractionBits ≤ last := by simp only [last]; omega
  have hlast3 : last = f.leastPlace ∨ last = place + mag.log2 - f.fractionBits := by simp only [last]; omega
  have hB : f.binade = 2 ^ f.fractionBits := rfl
  have low : last = f.leastPlace ∨ p2 (last + f.fractionBits) ≤ mag * p2 place := by
    rcases hlast3 with h | h
    · exact .inl h
    · refine .inr ?_
      have e : last + f.fractionBits = (mag.log2 : Int) + place := by omega
      rw [e, p2_add, p2_nat]
      have := Rat.natCast_le_natCast.2 hl1
      exact Rat.mul_le_mul_of_nonneg_right this (Rat.le_of_lt (p2_pos _))
  have hP := p2_pos place
  have hL := p2_pos last
  by_cases hc : last ≤ place
  · -- nothing is dropped
    have hd : (last - place).toNat = 0 := by omega
    have hk : kept = mag * 2 ^ (place - last).toNat := by simp only [kept]; rw [hd, cut_zero_drop, Nat.shiftLeft_eq]
    have hval : (kept : Rat) * p2 last = mag * p2 place := by
      rw [hk, p2_split hc, Rat.natCast_mul]; grind
    refine ⟨?_, ?_, ?_, ?_, low⟩
    · rw [hk]
      have h1 : mag * 2 ^ (place - last).toNat ≤ 2 ^ (mag.log2 + 1) * 2 ^ (place - last).toNat := Nat.mul_le_mul_right _ (Nat.le_of_lt hl2)
      rw [← Nat.pow_add] at h1
      have h2 : 2 ^ (mag.log2 + 1 + (place - last).toNat) ≤ 2 ^ (f.fractionBits + 1) := Nat.pow_le_pow_right (by omega) (by omega)
      rw [Nat.pow_succ] at h2
      rw [hB]; omega
    · rcases hlast3 with h | h
      · exact .inl h
      · refine .inr ?_
        rw [hk]
        have h1 : 2 ^ mag.log2 * 2 ^ (place - last).toNat ≤ mag * 2 ^ (place - last).toNat := Nat.mul_le_mul_right _ hl1
        rw [← Nat.pow_add] at h1
        have h2 : mag.log2 + (place - last).toNat = f.fractionBits := by omega
        rw [h2] at h1; exact h1
    · rw [hval, Rat.sub_self]; unfold ab; grind
    · intro K hK
      rw [← hval] at hK
      have := cancel_right hL hK
      exact_mod_cast this
  · -- some digits are dropped
    have hc' : place ≤ last := by omega
    have hs : (place - last).toNat = 0 := by omega
    have hk : kept = Ieee.Toward.even.cut s mag (last - place).toNat := by simp only [kept]; rw [hs, Nat.shiftLeft_zero]
    have hn := cut_near s mag (last - place).toNat
    rw [← hk] at hn
    have hsplit := p2_split hc'
    have hgpos : 0 < 2 ^ (last - place).toNat := Nat.two_pow_pos _
    refine ⟨?_, ?_, ?_, ?_, low⟩
    · have h2 : 2 ^ (mag.log2 + 1) ≤ 2 ^ ((last - place).toNat + (f.fractionBits + 1)) := Nat.pow_le_pow_right (by omega) (by omega)
      rw [Nat.pow_add 2 (last - place).toNat, Nat.pow_succ 2 f.fractionBits, ← hB] at h2
      generalize 2 ^ (last - place).toNat = g at hn hgpos h2
      have h3 : mag < g * (2 * f.binade) := by rw [Nat.mul_comm 2]; omega
      apply Nat.le_of_lt_succ
      apply Nat.lt_of_not_le
      intro hcon
      have h4 : (2 * f.binade + 1) * g ≤ kept * g := Nat.mul_le_mul_right _ hcon
      rw [Nat.add_mul, Nat.one_mul, Nat.mul_comm (2 * f.binade) g] at h4
      omega
    · rcases hlast3 with h | h
      · exact .inl h
      · refine .inr ?_
        have h2 : mag.log2 = (last - place).toNat + f.fractionBits := by omega
        rw [h2, Nat.pow_add, ← hB] at hl1
        generalize 2 ^ (last - place).toNat = g at hn hgpos hl1
        apply Nat.le_of_not_lt
        intro hcon
        have h4 : (kept + 1) * g ≤ f.binade * g := Nat.mul_le_mul_right _ hcon
        rw [Nat.add_mul, Nat.one_mul, Nat.mul_comm f.binade g] at h4
        omega
    · rw [hsplit]
      generalize hg : 2 ^ (last - place).toNat = g at hn hgpos
      have n1 := Rat.natCast_le_natCast.2 hn.1
      have n2 := Rat.natCast_le_natCast.2 hn.2
      simp only [Rat.natCast_add, Rat.natCast_mul] at n1 n2
      have m1 := Rat.mul_le_mul_of_nonneg_right n1 (Rat.le_of_lt hP)
      have m2 := Rat.mul_le_mul_of_nonneg_right n2 (Rat.le_of_lt hP)
      have : ((2 : Nat) : Rat) = 2 := rfl
      rw [ab_le]
      grind
    · intro K hK
      rw [hsplit] at hK
      have h5 : (mag : Rat) * p2 place = (K * ((2 ^ (last - place).toNat : Nat) : Rat)) * p2 place := by rw [hK]; grind
      have h6 := cancel_right hP h5
      rw [← Rat.natCast_mul] at h6
      have h7 : mag = K * 2 ^ (last - place).toNat := by exact_mod_cast h6
      rw [hk, h7]
      exact cut_exact s K _

/-- Below this power of two nothing overflows. -/
def topOf (f : Ieee.Format) : Int := f.leastPlace + f.fractionBits + (2 ^ f.exponentBits : Nat) - 3

theorem ab_num (s : Bool) (m : Nat) (e : Int) : ab (num s m e) = m * p2 e := by
  have h : 0 ≤ (m : Rat) * p2 e := Rat.mul_nonneg (Rat.natCast_nonneg) (Rat.le_of_lt (p2_pos _))
  unfold num
  cases s
  · simp only [Bool.false_eq_true, if_false, Rat.one_mul]; exact ab_of_nonneg h
  · simp only [if_true]; rw [ab_of_nonpos (by grind)]; grind

theorem ab_int (k : Int) : ab k = (k.natAbs : Rat) := by
  unfold ab
  by_cases h : 0 ≤ k
  · have h1 : (0 : Rat) ≤ k := by exact_mod_cast h
    rw [if_pos h1]
    obtain ⟨n, rfl⟩ := Int.eq_ofNat_of_zero_le h
    exact Rat.intCast_natCast n
  · have h1 : ¬ (0 : Rat) ≤ k := by
      intro hc; apply h; exact_mod_cast hc
    rw [if_neg h1]
    obtain ⟨n, hn⟩ := Int.eq_ofNat_of_zero_le (show 0 ≤ -k by omega)
    have : k.natAbs = n := by omega
    rw [this]
    have : k = -(n : Int) := by omega
    rw [this, Rat.intCast_neg, Rat.neg_neg]; exact Rat.intCast_natCast n

theorem num_eq_int {s : Bool} {m : Nat} {e : Int} {k g : Int} (h : num s m e = k * p2 g) : (m : Rat) * p2 e = (k.natAbs : Rat) * p2 g := by
  have := ab_num s m e
  rw [h, ab_mul, ab_int, ab_of_nonneg (Rat.le_of_lt (p2_pos g))] at this
  exact this.symm

theorem nearest_rounds (f : Ieee.Format) (hf : 2 ≤ f.exponentBits) (s : Bool) (mag : Nat) (place : Int) (hov : mag * p2 place < p2 (topOf f)) :
    ∃ c, Fv f (f.nearest s mag place) c ∧ Rounds f (num s mag place) c := by
  have hB : f.binade = 2 ^ f.fractionBits := rfl
  have hBpos : 0 < f.binade := Nat.two_pow_pos _
  have h4 : 2 ^ 2 ≤ 2 ^ f.exponentBits := Nat.pow_le_pow_right (by omega) hf
  have hinf : f.infRung = (2 ^ f.exponentBits - 1) * f.binade := rfl
  by_cases hm : mag = 0
  · subst hm
    refine ⟨0, ?_, ?_⟩
    · have := rung_value f s 0 0 (by omega) (.inl rfl) (by rw [hinf]; have : 0 < (2 ^ f.exponentBits - 1) * f.binade := Nat.mul_pos (by omega) hBpos; omega)
      have e : num s 0 (f.leastPlace + (0 : Nat)) = 0 := by unfold num; grind
      rw [e] at this
      simpa [Ieee.Format.nearest] using this
    · have e : num s 0 place = 0 := by unfold num; grind
      rw [e]
      have hp := Rat.le_of_lt (p2_pos f.leastPlace)
      have h0 : ab (0 - 0) = 0 := by unfold ab; grind
      have h00 : ab 0 = 0 := by unfold ab; grind
      exact ⟨by rw [h0, h00]; grind, fun _ => by rw [h0, h00]; grind, fun _ _ _ _ _ => rfl, fun g _ _ => ⟨0, by grind⟩, fun _ => Rat.le_refl, fun _ => Rat.le_refl, fun g _ _ => by rw [h0]; have := p2_pos g; grind⟩
  · have sp := kept_spec f s mag place hm
    dsimp only at sp
    unfold Ieee.Format.nearest
    rw [if_neg hm]
    dsimp only
    generalize hlast : max (place + mag.log2 - f.fractionBits) f.leastPlace = last at sp
    generalize hkept : Ieee.Toward.even.cut s (mag <<< (place - last).toNat) (last - place).toNat = kept at sp
    obtain ⟨s1, s2, s3, s4, s5⟩ := sp
    have hge : f.leastPlace ≤ last := by omega
    have hlog : 2 ^ mag.log2 ≤ mag := Nat.log2_self_le hm
    have htop : (mag.log2 : Int) + place < topOf f := by
      apply p2_lt
      refine rlt_of_le_of_lt ?_ hov
      rw [p2_add, p2_nat]
      exact Rat.mul_le_mul_of_nonneg_right (Rat.natCast_le_natCast.2 hlog) (Rat.le_of_lt (p2_pos _))
    have hq : (last - f.leastPlace).toNat + 2 < 2 ^ f.exponentBits - 1 := by
      have : (2 ^ f.exponentBits : Nat) = ((2 ^ f.exponentBits : Nat) : Int).toNat := by omega
      unfold topOf at htop
      omega
    have hlt : (last - f.leastPlace).toNat * f.binade + kept < f.infRung := by
      rw [hinf]
      have h1 : ((last - f.leastPlace).toNat + 2 + 1) * f.binade ≤ (2 ^ f.exponentBits - 1) * f.binade := Nat.mul_le_mul_right _ hq
      rw [Nat.add_mul, Nat.add_mul] at h1
      omega
    rw [Nat.min_eq_left (Nat.le_of_lt hlt)]
    have hv := rung_value f s _ kept s1 (by rcases s2 with h | h; exact .inl (by omega); exact .inr h) hlt
    have eplace : f.leastPlace + ((last - f.leastPlace).toNat : Int) = last := by omega
    rw [eplace] at hv
    refine ⟨_, hv, ?_⟩
    -- the six facts
    have hP := p2_pos last
    have hdiff : num s kept last - num s mag place = (if s then -1 else 1) * (kept * p2 last - mag * p2 place) := by unfold num; grind
    have habs : ab (num s kept last - num s mag place) = ab (kept * p2 last - mag * p2 place) := by
      rw [hdiff]; cases s
      · simp
      · simp only [if_true]; rw [show (-1 : Rat) * (kept * p2 last - mag * p2 place) = -(kept * p2 last - mag * p2 place) by grind, ab_neg]
    have hu : p2 (-(f.fractionBits : Int) - 1) * p2 (last + f.fractionBits) = p2 last / 2 := by
      rw [← p2_add]
      have e1 : -(f.fractionBits : Int) - 1 + (last + f.fractionBits) = last + (-1) := by omega
      rw [e1, p2_add]
      have := p2_neg 1
      rw [p2_one] at this
      grind
    have hupos := p2_pos (-(f.fractionBits : Int) - 1)
    have hmagpos : 0 ≤ (mag : Rat) * p2 place := Rat.mul_nonneg (Rat.natCast_nonneg) (Rat.le_of_lt (p2_pos _))
    have hsmall : last ≠ f.leastPlace → ab (num s kept last - num s mag place) ≤ p2 (-(f.fractionBits : Int) - 1) * ab (num s mag place) := by
      intro hne
      rcases s5 with h | h
      · exact absurd h hne
      · rw [habs, ab_num]
        have := Rat.mul_le_mul_of_nonneg_left h (Rat.le_of_lt hupos)
        rw [hu] at this
        exact Rat.le_trans s3 this
    have hexactP : (∃ K : Int, num s mag place = K * p2 last) → num s kept last = num s mag place := by
      rintro ⟨K, hK⟩
      have := s4 _ (num_eq_int hK)
      rw [this]; unfold num; rw [num_eq_int hK]
    have hmult : ∀ g : Int, last ≤ g → (∃ k : Int, num s mag place = k * p2 g) → ∃ K : Int, num s mag place = K * p2 last := by
      rintro g hg ⟨k, hk⟩
      refine ⟨k * ((2 ^ (g - last).toNat : Nat) : Int), ?_⟩
      rw [hk, p2_split hg, Rat.intCast_mul, Rat.intCast_natCast]; grind
    refine ⟨?_, ?_, ?_, ?_, ?_, ?_, ?_⟩
    · by_cases hl : last = f.leastPlace
      · rw [habs]
        have h1 : 0 ≤ p2 (-(f.fractionBits : Int) - 1) * ab (num s mag place) := Rat.mul_nonneg (Rat.le_of_lt hupos) (ab_nonneg _)
        have h2 := p2_pos f.leastPlace
        rw [hl] at s3 ⊢
        grind
      · have := hsmall hl
        have h2 := p2_pos f.leastPlace
        grind
    · intro hmul
      by_cases hl : last = f.leastPlace
      · rw [hexactP (by rw [hl]; exact hmul), Rat.sub_self, show ab 0 = 0 by unfold ab; grind]
        exact Rat.mul_nonneg (Rat.le_of_lt hupos) (ab_nonneg _)
      · exact hsmall hl
    · intro k g hg hk he
      have hlg : last ≤ g := by
        by_cases hl : last = f.leastPlace
        · omega
        · rcases s5 with h | h
          · exact absurd h hl
          · have h1 : (mag : Rat) * p2 place < p2 (f.fractionBits + 1) * p2 g := by
              rw [num_eq_int he, ← ab_int]
              exact Rat.mul_lt_mul_of_pos_right hk (p2_pos g)
            rw [← p2_add] at h1
            have := p2_lt (rlt_of_le_of_lt h h1)
            omega
      exact hexactP (hmult g hlg ⟨k, he⟩)
    · intro g hg hk
      by_cases hlg : last ≤ g
      · rw [hexactP (hmult g hlg hk)]; exact hk
      · refine ⟨(if s then -1 else 1) * (kept * ((2 ^ (last - g).toNat : Nat) : Int)), ?_⟩
        unfold num
        rw [p2_split (show g ≤ last by omega)]
        cases s
        · simp only [Bool.false_eq_true, if_false, Rat.intCast_mul, Rat.intCast_natCast]; grind
        · simp only [if_true, Rat.intCast_mul, Rat.intCast_natCast]
          have : ((-1 : Int) : Rat) = -1 := rfl
          grind
    · intro he
      cases s
      · unfold num; simp only [Bool.false_eq_true, if_false, Rat.one_mul]; exact Rat.mul_nonneg (Rat.natCast_nonneg) (Rat.le_of_lt hP)
      · -- the exact number is nothing
        have h0 : (mag : Rat) * p2 place = 0 := by unfold num at he; simp only [if_true] at he; grind
        rcases Rat.mul_eq_zero.1 h0 with h | h
        · exact absurd (by exact_mod_cast h) hm
        · have := p2_pos place; grind
    · intro he
      cases s
      · have h0 : (mag : Rat) * p2 place = 0 := by unfold num at he; simp only [Bool.false_eq_true, if_false] at he; grind
        rcases Rat.mul_eq_zero.1 h0 with h | h
        · exact absurd (by exact_mod_cast h) hm
        · have := p2_pos place; grind
      · unfold num; simp only [if_true]
        have := Rat.mul_nonneg (show (0:Rat) ≤ kept from Rat.natCast_nonneg) (Rat.le_of_lt hP)
        grind
    · intro g hg he
      have hlg : last ≤ g := by
        rcases s5 with h | h
        · omega
        · rw [ab_num] at he
          have := p2_lt (rlt_of_le_of_lt h he)
          omega
      rw [habs]
      have := p2_mono hlg
      grind
end Go.Proofs.Ytmgcbodlolnheaa
