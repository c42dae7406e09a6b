/- What the operations of a binary floating format give, said of the numbers that the words stand for. No program is in sight. -/
import Derived.Test.YtmgcbodlolnheaaFa
namespace Go.Proofs.Ytmgcbodlolnheaa
open Ieee

section
variable {f : Format}

theorem read_form (w : Nat) (s : Bool) (m : Nat) (e : Int) (h : f.read w = .number s m e) :
    f.leastPlace ≤ e ∧ m < 2 * f.binade ∧ (e = f.leastPlace ∨ f.binade ≤ m) := by
  have hB : 0 < f.binade := Nat.two_pow_pos _
  unfold Format.read at h
  dsimp only at h
  split at h
  · rename_i hr
    cases h
    exact ⟨by omega, by omega, .inl rfl⟩
  · split at h
    · cases h
      have := Nat.mod_lt (w % f.signWeight) hB
      exact ⟨by omega, by omega, .inr (by omega)⟩
    · split at h <;> cases h

theorem Fv.mult {w : Nat} {v : Rat} (h : Fv f w v) : ∃ k : Int, v = k * p2 f.leastPlace := by
  obtain ⟨s, m, e, hr, rfl⟩ := h
  obtain ⟨h1, _, _⟩ := read_form w s m e hr
  refine ⟨(if s then -1 else 1) * (m * ((2 ^ (e - f.leastPlace).toNat : Nat) : Int)), ?_⟩
  unfold num
  rw [p2_split h1]
  cases s
  · simp only [Bool.false_eq_true, if_false, Rat.intCast_mul, Rat.intCast_natCast]; grind
  · simp only [if_true, Rat.intCast_mul, Rat.intCast_natCast]
    have : ((-1 : Int) : Rat) = -1 := rfl
    grind

/-- A number of at least 2^e lies on the place t digits below. -/
theorem Fv.grain {w : Nat} {v : Rat} (h : Fv f w v) {e : Int} (he : p2 e ≤ ab v) : ∃ k : Int, v = k * p2 (e - f.fractionBits) := by
  obtain ⟨s, m, pl, hr, rfl⟩ := h
  obtain ⟨h1, h2, _⟩ := read_form w s m pl hr
  rw [ab_num] at he
  have hlt : e < f.fractionBits + 1 + pl := by
    apply p2_lt
    refine rlt_of_le_of_lt he ?_
    rw [p2_add, p2_add, p2_one, p2_nat]
    have : (m : Rat) < (2 * f.binade : Nat) := by exact_mod_cast h2
    have := Rat.mul_lt_mul_of_pos_right this (p2_pos pl)
    have hb : f.binade = 2 ^ f.fractionBits := rfl
    rw [hb, Rat.natCast_mul] at this
    have h2 : ((2 : Nat) : Rat) = 2 := rfl
    grind
  have hle : e - f.fractionBits ≤ pl := by omega
  refine ⟨(if s then -1 else 1) * (m * ((2 ^ (pl - (e - f.fractionBits)).toNat : Nat) : Int)), ?_⟩
  unfold num
  rw [p2_split hle]
  cases s
  · simp only [Bool.false_eq_true, if_false, Rat.intCast_mul, Rat.intCast_natCast]; grind
  · simp only [if_true, Rat.intCast_mul, Rat.intCast_natCast]
    have : ((-1 : Int) : Rat) = -1 := rfl
    grind

theorem signed_value (s : Bool) (m : Nat) {i base : Int} (h : base ≤ i) : ((signed s m (i - base).toNat : Int) : Rat) * p2 base = num s m i := by
  unfold signed num
  rw [p2_split h, Nat.shiftLeft_eq]
  cases s
  · simp only [Bool.false_eq_true, if_false, Rat.intCast_natCast, Rat.natCast_mul]; grind
  · simp only [if_true, Rat.intCast_neg, Rat.intCast_natCast, Rat.natCast_mul]; grind

/-- The number that a whole number of units of a place is. -/
theorem num_of_int (n : Int) (z : Bool) (base : Int) : num (if n = 0 then z else decide (n < 0)) n.natAbs base = n * p2 base := by
  unfold num
  by_cases h : n = 0
  · subst h; simp; 
  · rw [if_neg h]
    by_cases hn : n < 0
    · have e : (n : Rat) = -(n.natAbs : Rat) := by
        have : n = -(n.natAbs : Int) := by omega
        rw [this, Rat.intCast_neg, Rat.intCast_natCast]; simp
      simp only [hn, decide_true, if_true]; rw [e]; grind
    · have e : (n : Rat) = (n.natAbs : Rat) := by
        have : n = (n.natAbs : Int) := by omega
        rw [this, Rat.intCast_natCast]; simp
      simp only [hn, decide_false, Bool.false_eq_true, if_false]; rw [e]; grind

theorem write_number (s : Bool) (m : Nat) (e : Int) : f.write (.number s m e) = f.nearest s m e := rfl

theorem num_lt_top {s : Bool} {m : Nat} {e : Int} {v : Rat} (h : num s m e = v) (hv : ab v < p2 (topOf f)) : m * p2 e < p2 (topOf f) := by
  rw [← h, ab_num] at hv; exact hv

theorem sum_spec (a b : Rat) (d1 d2 : Datum) (h1 : ∃ s m e, d1 = .number s m e ∧ num s m e = a) (h2 : ∃ s m e, d2 = .number s m e ∧ num s m e = b)
    (hf : 2 ≤ f.exponentBits) (hov : ab (a + b) < p2 (topOf f)) : ∃ r c, (d1.sum d2).map f.write = some r ∧ Fv f r c ∧ Rounds f (a + b) c := by
  obtain ⟨s, m, i, rfl, rfl⟩ := h1
  obtain ⟨t, n, j, rfl, rfl⟩ := h2
  have hv : num (if signed s m (i - min i j).toNat + signed t n (j - min i j).toNat = 0 then s && t else decide (signed s m (i - min i j).toNat + signed t n (j - min i j).toNat < 0)) (signed s m (i - min i j).toNat + signed t n (j - min i j).toNat).natAbs (min i j) = num s m i + num t n j := by
    rw [num_of_int, Rat.intCast_add, Rat.add_mul, signed_value s m (by omega), signed_value t n (by omega)]
  obtain ⟨c, hc, hr⟩ := nearest_rounds f hf _ _ _ (num_lt_top hv hov)
  rw [hv] at hr
  exact ⟨_, c, rfl, hc, hr⟩

theorem add_spec (hf : 2 ≤ f.exponentBits) {x y : Nat} {a b : Rat} (hx : Fv f x a) (hy : Fv f y b) (hov : ab (a + b) < p2 (topOf f)) :
    ∃ r c, f.add x y = some r ∧ Fv f r c ∧ Rounds f (a + b) c :=
  sum_spec a b _ _ hx hy hf hov

theorem opposite_form {y : Nat} {b : Rat} (hy : Fv f y b) : ∃ s m e, (f.read y).opposite = .number s m e ∧ num s m e = -b := by
  obtain ⟨s, m, e, h, rfl⟩ := hy
  refine ⟨!s, m, e, by rw [h]; rfl, ?_⟩
  unfold num
  cases s <;> simp <;> grind

theorem sub_spec (hf : 2 ≤ f.exponentBits) {x y : Nat} {a b : Rat} (hx : Fv f x a) (hy : Fv f y b) (hov : ab (a - b) < p2 (topOf f)) :
    ∃ r c, f.sub x y = some r ∧ Fv f r c ∧ Rounds f (a - b) c := by
  rw [Rat.sub_eq_add_neg] at hov ⊢
  exact sum_spec a (-b) _ _ hx (opposite_form hy) hf hov

theorem num_mul (s t : Bool) (m n : Nat) (i j : Int) : num (s ^^ t) (m * n) (i + j) = num s m i * num t n j := by
  unfold num
  rw [p2_add, Rat.natCast_mul]
  cases s <;> cases t <;> simp <;> grind

theorem mul_spec (hf : 2 ≤ f.exponentBits) {x y : Nat} {a b : Rat} (hx : Fv f x a) (hy : Fv f y b) (hov : ab (a * b) < p2 (topOf f)) :
    ∃ r c, f.mul x y = some r ∧ Fv f r c ∧ Rounds f (a * b) c := by
  obtain ⟨s, m, i, h1, rfl⟩ := hx
  obtain ⟨t, n, j, h2, rfl⟩ := hy
  obtain ⟨c, hc, hr⟩ := nearest_rounds f hf (s ^^ t) (m * n) (i + j) (num_lt_top (num_mul s t m n i j) hov)
  rw [num_mul] at hr
  refine ⟨_, c, ?_, hc, hr⟩
  unfold Format.mul
  rw [h1, h2]; rfl

/-- A quotient: what is rounded is nearer to it than a quarter of the last digit that is kept; it is the quotient itself where nothing is left over. -/
theorem div_spec (hf : 2 ≤ f.exponentBits) {x y : Nat} {a b : Rat} (hx : Fv f x a) (hy : Fv f y b) (hb : b ≠ 0) (hov : 2 * ab (a / b) < p2 (topOf f)) :
    ∃ r c e, f.div x y = some r ∧ Fv f r c ∧ Rounds f e c ∧ ab (e - a / b) ≤ p2 (-(f.fractionBits : Int) - 2) * ab (a / b) ∧ (∀ (s t : Bool) (m k : Nat) (i j : Int), f.read x = .number s m i → f.read y = .number t (2 ^ k) j → k ≤ f.fractionBits → m < 2 * f.binade → e = a / b) := by
  obtain ⟨s, m, i, h1, rfl⟩ := hx
  obtain ⟨t, n, j, h2, rfl⟩ := hy
  have hn : n ≠ 0 := by
    rintro rfl; apply hb; unfold num; grind
  have hnR : (n : Rat) ≠ 0 := by intro h; apply hn; exact_mod_cast h
  generalize hmore : f.fractionBits + 2 + n.log2 - m.log2 = more
  have hq : (f.read x).quotient (f.fractionBits + 2) (f.read y) = some (.number (s ^^ t) (2 * ((m <<< more) / n) + ((m <<< more) % n != 0).toNat) (i - j - more - 1)) := by
    rw [h1, h2]; unfold Datum.quotient; simp [hn, hmore]
  have hdm := Nat.div_add_mod (m <<< more) n
  have hmod := Nat.mod_lt (m <<< more) (Nat.pos_of_ne_zero hn)
  generalize hqq : (m <<< more) / n = q at hq hdm
  generalize hrr : (m <<< more) % n = r at hq hdm hmod
  rw [Nat.shiftLeft_eq] at hdm
  -- the exact quotient
  have hP := p2_pos (i - j - more - 1)
  have hPi := p2_pos (i - j - more)
  have e2 : p2 (i - j - more) = 2 * p2 (i - j - more - 1) := by
    rw [show i - j - (more : Int) = (i - j - more - 1) + 1 by omega, p2_add, p2_one, show (i - j - (more : Int) - 1 + 1 - 1) = i - j - more - 1 by omega]; grind
  have eij : p2 i = p2 j * (p2 (i - j - more) * ((2 ^ more : Nat) : Rat)) := by
    rw [natCast_p2, ← p2_add, ← p2_add]; congr 1; omega
  have hsg : ((if (s ^^ t) then -1 else 1) : Rat) * (if t then -1 else 1) = (if s then -1 else 1) := by cases s <;> cases t <;> simp <;> decide +kernel
  have hsq : ((if t then -1 else 1) : Rat) * (if t then -1 else 1) = 1 := by cases t <;> simp <;> decide +kernel
  have hdmR : (n : Rat) * q + r = m * ((2 ^ more : Nat) : Rat) := by exact_mod_cast hdm
  have hpj := p2_pos j
  have hex : num s m i / num t n j = (if (s ^^ t) then -1 else 1) * ((q + (r : Rat) / n) * p2 (i - j - more)) := by
    have hne : num t n j ≠ 0 := hb
    have : num s m i = (if (s ^^ t) then -1 else 1) * ((q + (r : Rat) / n) * p2 (i - j - more)) * num t n j := by
      unfold num
      rw [eij, ← hsg]
      have h3 : (q + (r : Rat) / n) * n = m * ((2 ^ more : Nat) : Rat) := by grind
      grind
    rw [this]; grind
  have hrn0 : 0 ≤ (r : Rat) / n := by
    rw [Rat.div_def]
    exact Rat.mul_nonneg Rat.natCast_nonneg (Rat.le_of_lt (Rat.inv_pos.2 (by exact_mod_cast Nat.pos_of_ne_zero hn)))
  have hrn1 : (r : Rat) / n < 1 := by
    rw [Rat.div_lt_iff (by exact_mod_cast Nat.pos_of_ne_zero hn), Rat.one_mul]
    exact_mod_cast hmod
  have habs : ab (num s m i / num t n j) = (q + (r : Rat) / n) * p2 (i - j - more) := by
    rw [hex]
    have h0 : 0 ≤ (q + (r : Rat) / n) * p2 (i - j - more) := Rat.mul_nonneg (by have : (0:Rat) ≤ q := Rat.natCast_nonneg; grind) (Rat.le_of_lt hPi)
    cases (s ^^ t)
    · simp only [Bool.false_eq_true, if_false, Rat.one_mul]; exact ab_of_nonneg h0
    · simp only [if_true]; rw [ab_of_nonpos (by grind)]; grind
  -- what is rounded
  generalize hbit : (r != 0).toNat = bit at hq
  have hval : num (s ^^ t) (2 * q + bit) (i - j - more - 1) = (if (s ^^ t) then -1 else 1) * ((q + (bit : Rat) / 2) * p2 (i - j - more)) := by
    unfold num
    rw [e2, Rat.natCast_add, Rat.natCast_mul]
    have : ((2 : Nat) : Rat) = 2 := rfl
    grind
  have hdiff : ab (num (s ^^ t) (2 * q + bit) (i - j - more - 1) - num s m i / num t n j) = ab ((bit : Rat) / 2 - (r : Rat) / n) * p2 (i - j - more) := by
    rw [hval, hex]
    have : ((if (s ^^ t) then -1 else 1) * ((q + (bit : Rat) / 2) * p2 (i - j - more)) - (if (s ^^ t) then -1 else 1) * ((q + (r : Rat) / n) * p2 (i - j - more)) : Rat) = (if (s ^^ t) then -1 else 1) * (((bit : Rat) / 2 - (r : Rat) / n) * p2 (i - j - more)) := by grind
    rw [this, ab_mul, ab_mul, ab_of_nonneg (Rat.le_of_lt hPi)]
    cases (s ^^ t)
    · simp [show ab 1 = 1 by unfold ab; grind]
    · simp [show ab (-1) = 1 by unfold ab; grind]
  have hbits : (r = 0 → bit = 0) ∧ (r ≠ 0 → bit = 1) := by
    rw [← hbit]; constructor
    · rintro rfl; rfl
    · intro h; simp [h]
  have hhalf : ab ((bit : Rat) / 2 - (r : Rat) / n) ≤ 1 / 2 := by
    rw [ab_le]
    by_cases h0 : r = 0
    · rw [hbits.1 h0, h0]; have : ((0 : Nat) : Rat) = 0 := rfl; grind
    · rw [hbits.2 h0]; have : ((1 : Nat) : Rat) = 1 := rfl; grind
  have hrel : ab (num (s ^^ t) (2 * q + bit) (i - j - more - 1) - num s m i / num t n j) ≤ p2 (-(f.fractionBits : Int) - 2) * ab (num s m i / num t n j) := by
    by_cases hm0 : m = 0
    · subst hm0
      have hr0 : r = 0 := by rw [← hrr]; simp [Nat.shiftLeft_eq]
      rw [hdiff, hbits.1 hr0, hr0]
      have : ((0 : Nat) : Rat) = 0 := rfl
      have h0 : ab (((0 : Nat) : Rat) / 2 - ((0 : Nat) : Rat) / n) = 0 := by rw [this]; unfold ab; grind
      rw [h0, Rat.zero_mul]
      exact Rat.mul_nonneg (Rat.le_of_lt (p2_pos _)) (ab_nonneg _)
    · rw [hdiff, habs]
      have hlm : 2 ^ m.log2 ≤ m := Nat.log2_self_le hm0
      have hln : n < 2 ^ (n.log2 + 1) := Nat.lt_log2_self
      have hbig : 2 ^ (f.fractionBits + 1) ≤ q := by
        rw [← hqq, Nat.shiftLeft_eq]
        rw [Nat.le_div_iff_mul_le (Nat.pos_of_ne_zero hn)]
        have h1 : 2 ^ (f.fractionBits + 1) * n ≤ 2 ^ (f.fractionBits + 1) * 2 ^ (n.log2 + 1) := Nat.mul_le_mul_left _ (Nat.le_of_lt hln)
        have h2 : 2 ^ m.log2 * 2 ^ more ≤ m * 2 ^ more := Nat.mul_le_mul_right _ hlm
        rw [← Nat.pow_add] at h1 h2
        have h3 : 2 ^ (f.fractionBits + 1 + (n.log2 + 1)) ≤ 2 ^ (m.log2 + more) := Nat.pow_le_pow_right (by omega) (by omega)
        omega
      have hbigR : p2 (f.fractionBits + 1) ≤ (q : Rat) := by
        have : ((f.fractionBits : Int) + 1) = ((f.fractionBits + 1 : Nat) : Int) := by omega
        rw [this, p2_nat]; exact_mod_cast hbig
      have hone : p2 (-(f.fractionBits : Int) - 2) * p2 (f.fractionBits + 1) = 1 / 2 := by
        rw [← p2_add, show -(f.fractionBits : Int) - 2 + (f.fractionBits + 1) = -1 by omega]
        have := p2_neg 1; rw [p2_one] at this; grind
      have h5 := Rat.mul_le_mul_of_nonneg_left (show p2 (f.fractionBits + 1) ≤ q + (r : Rat) / n by grind) (Rat.le_of_lt (p2_pos (-(f.fractionBits : Int) - 2)))
      rw [hone] at h5
      have h6 := Rat.mul_le_mul_of_nonneg_right (Rat.le_trans hhalf h5) (Rat.le_of_lt hPi)
      grind
  have hov' : ab (num (s ^^ t) (2 * q + bit) (i - j - more - 1)) < p2 (topOf f) := by
    have h1 := ab_add (num (s ^^ t) (2 * q + bit) (i - j - more - 1) - num s m i / num t n j) (num s m i / num t n j)
    have h2 : p2 (-(f.fractionBits : Int) - 2) ≤ 1 := by
      have := p2_mono (show -(f.fractionBits : Int) - 2 ≤ 0 by omega)
      rwa [p2_zero] at this
    have h3 := Rat.mul_le_mul_of_nonneg_right h2 (ab_nonneg (num s m i / num t n j))
    have h4 : num (s ^^ t) (2 * q + bit) (i - j - more - 1) - num s m i / num t n j + num s m i / num t n j = num (s ^^ t) (2 * q + bit) (i - j - more - 1) := by grind
    rw [h4] at h1
    grind
  obtain ⟨c, hc, hr⟩ := nearest_rounds f hf _ _ _ (num_lt_top rfl hov')
  refine ⟨_, c, _, ?_, hc, hr, hrel, ?_⟩
  · unfold Format.div; rw [hq]; rfl
  · intro s' t' m' k i' j' g1 g2 hk hm'
    rw [h1] at g1; cases g1
    rw [h2] at g2; cases g2
    have hlk : (2 ^ k).log2 = k := by rw [Nat.log2_two_pow]
    have hr0 : r = 0 := by
      rw [← hrr, Nat.shiftLeft_eq]
      have hml : m.log2 ≤ f.fractionBits := by
        by_cases hm0 : m = 0
        · subst hm0; simp
        · have := Nat.log2_self_le hm0
          have h9 : 2 ^ m.log2 < 2 ^ (f.fractionBits + 1) := by rw [Nat.pow_succ 2 f.fractionBits]; show _ < f.binade * 2; omega
          have := (Nat.pow_lt_pow_iff_right (by omega : 1 < 2)).1 h9
          omega
      have hkm : k ≤ more := by rw [hlk] at hmore; omega
      obtain ⟨d, rfl⟩ := Nat.exists_eq_add_of_le hkm
      rw [Nat.pow_add, Nat.mul_left_comm]
      exact Nat.mul_mod_right _ _
    rw [hval, hex, hbits.1 hr0, hr0]
    have : ((0 : Nat) : Rat) = 0 := rfl
    grind

/-- How two finite words stand to each other. -/
theorem order_spec {x y : Nat} {a b : Rat} (hx : Fv f x a) (hy : Fv f y b) :
    f.order x y = some (if a < b then .lt else if a = b then .eq else .gt) := by
  obtain ⟨s, m, i, h1, rfl⟩ := hx
  obtain ⟨t, n, j, h2, rfl⟩ := hy
  unfold Format.order
  rw [h1, h2]
  show some (compare (signed s m (i - min i j).toNat) (signed t n (j - min i j).toNat)) = _
  have v1 := signed_value s m (show min i j ≤ i by omega)
  have v2 := signed_value t n (show min i j ≤ j by omega)
  generalize signed s m (i - min i j).toNat = p at v1
  generalize signed t n (j - min i j).toNat = q at v2
  rw [← v1, ← v2]
  have hP := p2_pos (min i j)
  congr 1
  by_cases c : p < q
  · have : (p : Rat) * p2 (min i j) < q * p2 (min i j) := Rat.mul_lt_mul_of_pos_right (by exact_mod_cast c) hP
    rw [if_pos this]; exact Int.compare_eq_lt.2 c
  · have hn : ¬ ((p : Rat) * p2 (min i j) < q * p2 (min i j)) := by
      have h3 : (q : Rat) ≤ p := by exact_mod_cast Int.not_lt.1 c
      have := Rat.mul_le_mul_of_nonneg_right h3 (Rat.le_of_lt hP)
      grind
    rw [if_neg hn]
    by_cases d : p = q
    · subst d; simp
    · have : ¬ ((p : Rat) * p2 (min i j) = q * p2 (min i j)) := by
        intro h; exact d (by exact_mod_cast cancel_right hP h)
      rw [if_neg this]; exact Int.compare_eq_gt.2 (by omega)

/-- A cut downward. -/
theorem cut_down (s : Bool) (n drop : Nat) :
    (s = false → Toward.down.cut s n drop = n / 2 ^ drop) ∧ (s = true → Toward.down.cut s n drop * 2 ^ drop < n + 2 ^ drop ∧ n ≤ Toward.down.cut s n drop * 2 ^ drop) := by
  unfold Toward.cut
  dsimp only
  by_cases h : drop ≤ n.log2 + 2
  · rw [Nat.min_eq_left h, Nat.one_shiftLeft]
    constructor
    · rintro rfl; simp
    · rintro rfl
      have hg : 0 < 2 ^ drop := Nat.two_pow_pos _
      generalize 2 ^ drop = g at hg
      have hd := Nat.div_add_mod n g
      have hm := Nat.mod_lt n hg
      rw [Nat.mul_comm] at hd
      by_cases hr : n % g = 0
      · simp only [hr]; simp; rw [hr] at hd; omega
      · have : (n % g != 0) = true := by simpa using hr
        simp only [this, Bool.and_true, Bool.toNat_true, Nat.add_mul]; omega
  · have h' : n.log2 + 2 ≤ drop := by omega
    rw [Nat.min_eq_right h', Nat.one_shiftLeft]
    have hl : n < 2 ^ (n.log2 + 1) := Nat.lt_log2_self
    have e2 : 2 ^ (n.log2 + 2) = 2 * 2 ^ (n.log2 + 1) := by rw [Nat.pow_succ 2 (n.log2+1)]; omega
    have hp : 2 ^ (n.log2 + 2) ≤ 2 ^ drop := Nat.pow_le_pow_right (by omega) h'
    have hlow : n / 2 ^ (n.log2 + 2) = 0 := Nat.div_eq_of_lt (by omega)
    have hrest : n % 2 ^ (n.log2 + 2) = n := Nat.mod_eq_of_lt (by omega)
    rw [hlow, hrest]
    constructor
    · rintro rfl
      rw [Nat.div_eq_of_lt (by omega)]; simp
    · rintro rfl
      by_cases h0 : n = 0
      · subst h0; simp; exact Nat.two_pow_pos _
      · have : (n != 0) = true := by simpa using h0
        simp only [this, Bool.and_true, Bool.toNat_true, Nat.zero_add, Nat.one_mul]; omega

theorem cut_up (s : Bool) (n drop : Nat) : Toward.up.cut s n drop = Toward.down.cut (!s) n drop := by
  unfold Toward.cut; cases s <;> rfl

theorem cut_trunc (s : Bool) (n drop : Nat) : Toward.zero.cut s n drop = n / 2 ^ drop := by
  have := (cut_down false n drop).1 rfl
  rw [← this]; unfold Toward.cut; simp

/-- The parts that a cut is asked for: the number is n / 2^drop. -/
theorem cut_parts (m : Nat) (e : Int) : ((m <<< e.toNat : Nat) : Rat) = (m : Rat) * p2 e * ((2 ^ (-e).toNat : Nat) : Rat) := by
  rw [Nat.shiftLeft_eq, Rat.natCast_mul]
  by_cases h : 0 ≤ e
  · have h1 : (-e).toNat = 0 := by omega
    have h2 : p2 e = ((2 ^ e.toNat : Nat) : Rat) := by rw [← p2_nat]; congr 1; omega
    rw [h1, Nat.pow_zero, h2]
    have : ((1 : Nat) : Rat) = 1 := rfl
    grind
  · have h1 : e.toNat = 0 := by omega
    have h2 : ((-e).toNat : Int) = -e := by omega
    rw [h1, Nat.pow_zero, natCast_p2, h2]
    have := p2_neg e
    have : ((1 : Nat) : Rat) = 1 := rfl
    grind

theorem floor_unique {v : Rat} {k : Int} (h1 : (k : Rat) ≤ v) (h2 : v < k + 1) : v.floor = k := by
  have a : k ≤ v.floor := Rat.le_floor_iff.2 h1
  have b : v.floor < k + 1 := by
    rw [Rat.floor_lt_iff, Rat.intCast_add]; exact h2
  omega

/-- A number made whole downward is its floor. -/
theorem integral_down {s : Bool} {m : Nat} {e : Int} : ∃ s' m', (Datum.number s m e).integral .down = .number s' m' 0 ∧ num s' m' 0 = ((num s m e).floor : Int) := by
  refine ⟨s, _, rfl, ?_⟩
  have hp := cut_parts m e
  have hc := cut_down s (m <<< e.toNat) (-e).toNat
  generalize m <<< e.toNat = n at hp hc
  have hg : 0 < 2 ^ (-e).toNat := Nat.two_pow_pos _
  generalize 2 ^ (-e).toNat = g at hp hc hg
  have hgR : (0 : Rat) < g := by exact_mod_cast hg
  unfold num
  rw [p2_zero, Rat.mul_one]
  cases s
  · rw [hc.1 rfl]
    simp only [Bool.false_eq_true, if_false, Rat.one_mul]
    have hd := Nat.div_add_mod n g
    have hm := Nat.mod_lt n hg
    generalize n / g = q at hd
    have hd1 : (n : Rat) = g * q + (n % g : Nat) := by exact_mod_cast hd.symm
    have hm1 : ((n % g : Nat) : Rat) < g := by exact_mod_cast hm
    have hm0 : (0 : Rat) ≤ (n % g : Nat) := Rat.natCast_nonneg
    rw [floor_unique (k := (q : Int))]
    · exact (Rat.intCast_natCast q).symm
    · rw [Rat.intCast_natCast]
      refine Rat.le_of_mul_le_mul_right ?_ hgR
      grind
    · rw [Rat.intCast_natCast]
      refine Rat.lt_of_mul_lt_mul_right ?_ (Rat.le_of_lt hgR)
      grind
  · simp only [if_true]
    have hc2 := hc.2 rfl
    generalize Toward.down.cut true n (-e).toNat = q at hc2
    have h1 : (q : Rat) * g < n + g := by exact_mod_cast hc2.1
    have h2 : (n : Rat) ≤ q * g := by exact_mod_cast hc2.2
    rw [floor_unique (k := -(q : Int))]
    · rw [Rat.intCast_neg, Rat.intCast_natCast]; grind
    · rw [Rat.intCast_neg, Rat.intCast_natCast]
      refine Rat.le_of_mul_le_mul_right ?_ hgR
      grind
    · rw [Rat.intCast_neg, Rat.intCast_natCast]
      refine Rat.lt_of_mul_lt_mul_right ?_ (Rat.le_of_lt hgR)
      grind

theorem integral_up {s : Bool} {m : Nat} {e : Int} : ∃ s' m', (Datum.number s m e).integral .up = .number s' m' 0 ∧ num s' m' 0 = ((num s m e).ceil : Int) := by
  obtain ⟨s', m', h1, h2⟩ := @integral_down (!s) m e
  have hn : num (!s) m e = -(num s m e) := by unfold num; cases s <;> simp <;> grind
  refine ⟨!s', m', ?_, ?_⟩
  · unfold Datum.integral at h1 ⊢
    dsimp only at h1 ⊢
    rw [cut_up]
    cases h1
    simp
  · have : num (!s') m' 0 = -(num s' m' 0) := by unfold num; cases s' <;> simp <;> grind
    rw [this, h2, hn, Rat.ceil_eq_neg_floor_neg, Rat.intCast_neg]

/-- Towards zero, of what is not below zero: the floor. -/
theorem toInt_zero {s : Bool} {m : Nat} {e : Int} (h : 0 ≤ num s m e) : (Datum.number s m e).toInt .zero = some (num s m e).floor := by
  have hp := cut_parts m e
  unfold Datum.toInt Datum.integral
  dsimp only
  rw [cut_trunc]
  generalize m <<< e.toNat = n at hp
  have hg : 0 < 2 ^ (-e).toNat := Nat.two_pow_pos _
  generalize 2 ^ (-e).toNat = g at hp hg
  have hgR : (0 : Rat) < g := by exact_mod_cast hg
  have hd := Nat.div_add_mod n g
  have hm := Nat.mod_lt n hg
  generalize n / g = q at hd
  have hd1 : (n : Rat) = g * q + (n % g : Nat) := by exact_mod_cast hd.symm
  have hm1 : ((n % g : Nat) : Rat) < g := by exact_mod_cast hm
  have hm0 : (0 : Rat) ≤ (n % g : Nat) := Rat.natCast_nonneg
  have hfl : ((m : Rat) * p2 e).floor = q := by
    apply floor_unique
    · rw [Rat.intCast_natCast]
      refine Rat.le_of_mul_le_mul_right ?_ hgR
      grind
    · rw [Rat.intCast_natCast]
      refine Rat.lt_of_mul_lt_mul_right ?_ (Rat.le_of_lt hgR)
      grind
  cases s
  · unfold signed num
    simp only [Bool.false_eq_true, if_false, Rat.one_mul, Nat.shiftLeft_zero, hfl]
  · have hz : (m : Rat) * p2 e = 0 := by
      unfold num at h; simp only [if_true] at h
      have := Rat.mul_nonneg (show (0:Rat) ≤ m from Rat.natCast_nonneg) (Rat.le_of_lt (p2_pos e))
      grind
    rw [hz] at hfl
    have hq : (q : Int) = 0 := by
      rw [← hfl]; rfl
    have hq' : q = 0 := by omega
    subst hq'
    unfold signed num
    simp only [if_true, Nat.shiftLeft_zero, hz]
    rw [show (-1 : Rat) * 0 = 0 by grind, hfl]; rfl
end
end Go.Proofs.Ytmgcbodlolnheaa
