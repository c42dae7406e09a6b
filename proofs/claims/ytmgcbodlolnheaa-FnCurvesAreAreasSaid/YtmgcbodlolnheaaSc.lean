/- The reference's cuts and pieces, in numbers. No program is in sight. -/
import Derived.Test.YtmgcbodlolnheaaSb
namespace Go.Proofs.Ytmgcbodlolnheaa
open Ieee

/-- An edge that goes down, a pixel. -/
structure LineP (right sign slope : Nat) (s k : Rat) (x0 y0 x1 y1 : Int) (px py : Nat) : Prop where
  hr : F64 right (262144 * px + 262144)
  hsg : F64 sign s
  hs : s = 1 ∨ s = -1
  sl : ∃ sv, F64 slope sv ∧ ab (sv - k) ≤ 3 * u64 * ab k + tiny64
  hk : k * (y1 - y0) = x1 - x0
  bx0 : x0.natAbs ≤ 33554432
  by0 : y0.natAbs ≤ 33554432
  bx1 : x1.natAbs ≤ 33554432
  by1 : y1.natAbs ≤ 33554432
  hy : y0 < y1
  hpx : px < 64
  hpy : py < 64

def Straddle (x0 y0 : Int) (k e p q : Rat) : Prop :=
  (x0 + k * (p - y0) < e - 1 / 2 ∧ e + 1 / 2 < x0 + k * (q - y0)) ∨ (x0 + k * (q - y0) < e - 1 / 2 ∧ e + 1 / 2 < x0 + k * (p - y0))

def Yp (py : Nat) (y : Rat) : Rat := y / 262144 - py
def qk (x0 y0 : Int) (k : Rat) (px py : Nat) : Rat := (x0 - k * y0) / 262144 + k * py - px
/-- What lies to the left of the pixel's right side, down to y. -/
def pp (x0 y0 : Int) (k : Rat) (px py : Nat) (y : Rat) : Rat := Yp py y - along k (qk x0 y0 k px py) 0 (Yp py y)

theorem pp_dif (x0 y0 : Int) (k : Rat) (px py : Nat) (p c : Rat) :
    pp x0 y0 k px py c - pp x0 y0 k px py p = (c - p) / 262144 * (1 - mean ((x0 + k * (p - y0)) / 262144 - px) ((x0 + k * (c - y0)) / 262144 - px)) := by
  have h := along_add k (qk x0 y0 k px py) 0 (Yp py p) (Yp py c)
  have e : along k (qk x0 y0 k px py) (Yp py p) (Yp py c) = (Yp py c - Yp py p) * mean ((x0 + k * (p - y0)) / 262144 - px) ((x0 + k * (c - y0)) / 262144 - px) := by
    unfold along
    rw [show k * Yp py p + qk x0 y0 k px py = (x0 + k * (p - y0)) / 262144 - px by unfold Yp qk; grind, show k * Yp py c + qk x0 y0 k px py = (x0 + k * (c - y0)) / 262144 - px by unfold Yp qk; grind]
  have e2 : Yp py c - Yp py p = (c - p) / 262144 := by unfold Yp; grind
  rw [e2] at e
  unfold pp
  grind

section
variable {right sign slope : Nat} {s k : Rat} {x0 y0 x1 y1 : Int} {px py : Nat}

theorem LineP.Q (P : LineP right sign slope s k x0 y0 x1 y1 px py) {y : Rat} (h0 : (y0 : Rat) ≤ y) (h1 : y ≤ y1) : ab k * ab (y - y0) ≤ 67108864 ∧ ab y ≤ 33554432 := by
  have b0 := ab_le.1 (int_ab P.bx0)
  have b1 := ab_le.1 (int_ab P.bx1)
  have c0 := ab_le.1 (int_ab P.by0)
  have c1 := ab_le.1 (int_ab P.by1)
  rw [show ((33554432 : Nat) : Rat) = 33554432 from rfl] at b0 b1 c0 c1
  have hk := P.hk
  constructor
  · rw [ab_of_nonneg (show 0 ≤ y - y0 by grind)]
    have h2 := mul_le_mul_l (show y - y0 ≤ (y1 : Rat) - y0 by grind) (ab_nonneg k)
    have h3 : ab k * ((y1 : Rat) - y0) = ab ((x1 : Rat) - x0) := by rw [← hk, ab_mul, ab_of_nonneg (show 0 ≤ (y1 : Rat) - y0 by grind)]
    have h4 : ab ((x1 : Rat) - x0) ≤ 67108864 := by rw [ab_le]; grind
    grind
  · rw [ab_le]; grind

theorem piece_ok (P : LineP right sign slope s k x0 y0 x1 y1 px py) {prev cur sum : Nat} {pv cv sm : Rat} (hp : F64 prev pv) (hc : F64 cur cv) (hm : F64 sum sm) (bs : ab sm ≤ 20000000000000)
    (h0 : (y0 : Rat) ≤ pv) (h1 : pv ≤ cv) (h2 : cv ≤ y1) (h3 : cv - pv ≤ 262144) (hA : ¬ Straddle x0 y0 k (262144 * px) pv cv) (hB : ¬ Straddle x0 y0 k (262144 * px + 262144) pv cv) :
    ∃ r v, trapStep right (of64 262144) sign x0 y0 slope prev cur sum = some r ∧ F64 r v ∧ ab (v - (sm + s * (68719476736 * (pp x0 y0 k px py cv - pp x0 y0 k px py pv)))) ≤ 264000 := by
  have ho : F64 (of64 262144) 262144 := by
    have := of64_ok 262144 (by omega)
    rwa [show ((262144 : Int) : Rat) = 262144 by decide +kernel] at this
  obtain ⟨sv, fs, ks⟩ := P.sl
  have q1 := P.Q h0 (show pv ≤ y1 by grind)
  have q2 := P.Q (show (y0 : Rat) ≤ cv by grind) h2
  have hpx : (px : Rat) ≤ 63 := by have := nat_cast_le_of (show px ≤ 63 by have := P.hpx; omega); exact this
  have hpx0 : (0 : Rat) ≤ px := by exact_mod_cast Nat.zero_le px
  obtain ⟨r, v, e1, f1, k1⟩ := trap_ok P.hr ho P.hsg P.hs (by rw [ab_le]; grind) fs ks hp hc hm P.bx0 P.by0 q1.2 q2.2 bs q1.1 q2.1 h1 h3
  refine ⟨r, v, e1, f1, ?_⟩
  have eP : cu 262144 (262144 * px + 262144 - (x0 + k * (pv - y0))) = 262144 * (1 - cl ((x0 + k * (pv - y0)) / 262144 - px)) := by
    rw [← cu_cl (by decide +kernel)]; congr 1; grind
  have eC : cu 262144 (262144 * px + 262144 - (x0 + k * (cv - y0))) = 262144 * (1 - cl ((x0 + k * (cv - y0)) / 262144 - px)) := by
    rw [← cu_cl (by decide +kernel)]; congr 1; grind
  rw [eP, eC] at k1
  have hz := trap_zone (X0 := (x0 + k * (pv - y0)) / 262144 - px) (X1 := (x0 + k * (cv - y0)) / 262144 - px) (η := 1 / 524288) (by decide +kernel) (by decide +kernel)
    (fun h => hA (.inl (by grind))) (fun h => hA (.inr (by grind))) (fun h => hB (.inl (by grind))) (fun h => hB (.inr (by grind)))
  rw [pp_dif]
  generalize (x0 + k * (pv - y0)) / 262144 - (px : Rat) = X0 at *
  generalize (x0 + k * (cv - y0)) / 262144 - (px : Rat) = X1 at *
  have t1 : ab (s * ((cv - pv) * 262144 * (mean X0 X1 - (cl X0 + cl X1) / 2))) ≤ 262144 := by
    have hsab : ab s = 1 := by
      rcases P.hs with h | h
      · rw [h]; decide +kernel
      · rw [h]; decide +kernel
    rw [ab_mul, hsab, Rat.one_mul]
    have := ab_mul_le (show ab ((cv - pv) * 262144) ≤ 262144 * 262144 by rw [ab_le]; grind) hz
    grind
  have n1 := ab_le.1 t1
  have n2 := ab_le.1 k1
  generalize cl X0 = c0 at *
  generalize cl X1 = c1 at *
  generalize mean X0 X1 = m at *
  rw [ab_le]
  clear t1 k1 hz eP eC hA hB q1 q2 P
  grind

set_option maxHeartbeats 1000000 in
theorem cut_ok (P : LineP right sign slope s k x0 y0 x1 y1 px py) (hne : x0 ≠ x1) {top bottom : Nat} {tv bv : Rat} (ht : F64 top tv) (hb : F64 bottom bv) (e : Int) (he : e.natAbs ≤ 33554432) :
    ∃ w c, F64 w c ∧ (∀ cuts, cutAdd x0 y0 slope top bottom e cuts = some (if tv < c ∧ c < bv then cuts ++ [w] else cuts)) ∧
      ∀ p q : Rat, (y0 : Rat) ≤ p → p < q → q ≤ y1 → Straddle x0 y0 k e p q → p < c ∧ c < q := by
  have hu := u64_pos
  have hul := u64_small
  have ht0 := tiny64_pos
  have htl : tiny64 ≤ 1 / 10000000000000000000000000 := Rat.le_trans tiny64_le (by decide +kernel)
  obtain ⟨sv, fs, ks⟩ := P.sl
  have b0 := ab_le.1 (int_ab P.bx0)
  have b1 := ab_le.1 (int_ab P.bx1)
  have c0 := ab_le.1 (int_ab P.by0)
  have c1 := ab_le.1 (int_ab P.by1)
  have d0 := ab_le.1 (int_ab he)
  rw [show ((33554432 : Nat) : Rat) = 33554432 from rfl] at b0 b1 c0 c1 d0
  have hk := P.hk
  have hyq : (y0 : Rat) + 1 ≤ y1 := by
    have : ((y0 + 1 : Int) : Rat) ≤ y1 := Rat.intCast_le_intCast.2 (by have := P.hy; omega)
    rwa [int_succ] at this
  -- the slope
  have hxx : (1 : Rat) ≤ ab ((x1 : Rat) - x0) := by
    rw [← Rat.intCast_sub, ab_int]
    have : 1 ≤ (x1 - x0).natAbs := by omega
    exact nat_cast_le_of this
  have hkx : ab k * ((y1 : Rat) - y0) = ab ((x1 : Rat) - x0) := by rw [← hk, ab_mul, ab_of_nonneg (show 0 ≤ (y1 : Rat) - y0 by grind)]
  have hx2 : ab ((x1 : Rat) - x0) ≤ 67108864 := by rw [ab_le]; grind
  have hk0 := ab_nonneg k
  have hklow : 1 / 67108864 ≤ ab k := by
    have := mul_le_mul_l (show (y1 : Rat) - y0 ≤ 67108864 by grind) hk0
    grind
  have hkhigh : ab k ≤ 67108864 := by
    have := mul_le_mul_l (show 1 ≤ (y1 : Rat) - y0 by grind) hk0
    grind
  have huk := mul_le_mul_r hul hk0
  have huk0 := mul_nn (Rat.le_of_lt hu) hk0
  have ks2 : ab (sv - k) ≤ 31 / 10 * u64 * ab k := by
    have : tiny64 ≤ 1 / 10 * u64 * ab k := by
      have h1 := mul_le_mul_l hklow (Rat.le_of_lt hu)
      have h2 := tiny_u64
      grind
    grind
  have hsvlow : 99 / 100 * ab k ≤ ab sv := by
    have := ab_sub sv (sv - k)
    rw [show sv - (sv - k) = k by grind] at this
    grind
  have hsv0 : sv ≠ 0 := by
    intro h
    rw [h, show ab 0 = 0 by decide +kernel] at hsvlow
    grind
  -- the quotient
  have fe := of64_ok (e - x0) (by have := P.bx0; omega)
  rw [Rat.intCast_sub] at fe
  have hdiv := div_mul_self (a := (e : Rat) - x0) (b := sv) hsv0
  have hex : ab ((e : Rat) - x0) ≤ 67108864 := by rw [ab_le]; grind
  have hqb : ab (((e : Rat) - x0) / sv) ≤ 10000000000000000 := by
    refine le_of_mul_le (c := ab sv) (by grind) ?_
    rw [← ab_mul, hdiv]
    grind
  obtain ⟨qw, qv, e1, f1, k1⟩ := f64_div fe fs hsv0 (Rat.le_trans hqb (by unfold huge; have := p2_nat 120; rw [show (120 : Int) = ((120 : Nat) : Int) from rfl, this]; decide +kernel))
  have fy := of64_ok y0 (by have := P.by0; omega)
  have hqv : ab qv ≤ 20000000000000000 := by
    have h1 := ab_add (qv - ((e : Rat) - x0) / sv) (((e : Rat) - x0) / sv)
    rw [show qv - ((e : Rat) - x0) / sv + ((e : Rat) - x0) / sv = qv by grind] at h1
    have := mul_le_mul_l hqb (Rat.le_of_lt hu)
    grind
  obtain ⟨w, c, e2, f2, _, k2⟩ := f64_add fy f1 (Rat.le_trans (show ab ((y0 : Rat) + qv) ≤ 30000000000000000 by have := ab_le.1 hqv; rw [ab_le]; grind) (by unfold huge; have := p2_nat 120; rw [show (120 : Int) = ((120 : Nat) : Int) from rfl, this]; decide +kernel))
  refine ⟨w, c, f2, ?_, ?_⟩
  · intro cuts
    have E1 : div64 (of64 (e - x0)) slope = some qw := e1
    have E2 : add64 (of64 y0) qw = some w := e2
    unfold cutAdd
    rw [E1, Option.bind_some, E2, Option.bind_some, gt64_eq f2 ht, lt64_eq f2 hb]
    by_cases hc1 : tv < c <;> by_cases hc2 : c < bv <;> simp [hc1, hc2]
  · intro p q hp hpq hq hst
    -- where the line crosses
    have hkne : k ≠ 0 := by
      intro h
      rw [h, show ab 0 = 0 by decide +kernel] at hklow
      grind
    have hz := div_mul_self (a := (e : Rat) - x0) (b := k) hkne
    generalize ((e : Rat) - x0) / k = z at hz
    generalize ((e : Rat) - x0) / sv = z' at *
    -- z' is near z
    have hzz : ab (z' - z) * (99 / 100) ≤ 31 / 10 * u64 * ab z := by
      have h1 : (z' - z) * sv = -((sv - k) * z) := by grind
      have h2 : ab (z' - z) * ab sv = ab (sv - k) * ab z := by rw [← ab_mul, h1, ab_neg, ab_mul]
      have h3 := mul_le_mul_r ks2 (ab_nonneg z)
      have h4 := mul_le_mul_l hsvlow (ab_nonneg (z' - z))
      refine le_of_mul_le (c := ab k) (by grind) ?_
      grind
    have hz0 := ab_nonneg z
    have hzl := mul_le_mul_r hul hz0
    have hqz : ab (qv - z) ≤ 6 * u64 * ab z + tiny64 := by
      have h1 := ab_add (qv - z') (z' - z)
      rw [show qv - z' + (z' - z) = qv - z by grind] at h1
      have h2 := ab_add (z' - z) z
      rw [show z' - z + z = z' by grind] at h2
      have h3 := mul_le_mul_l (show ab z' ≤ 1001 / 1000 * ab z by grind) (Rat.le_of_lt hu)
      have h4 := mul_nn (Rat.le_of_lt hu) hz0
      grind
    -- the crossing lies between
    have hbet : p - y0 ≤ z ∧ z ≤ q - y0 := by
      rcases hst with ⟨s1, s2⟩ | ⟨s1, s2⟩
      · have hkp : 0 < k := by
          rcases rtot k 0 with h | h
          · have := mul_nn (show 0 ≤ -k by grind) (show 0 ≤ q - p by grind); grind
          · grind
        exact ⟨le_of_mul_le hkp (by grind), le_of_mul_le hkp (by grind)⟩
      · have hkp : 0 < -k := by
          rcases rtot 0 k with h | h
          · have := mul_nn h (show 0 ≤ q - p by grind); grind
          · grind
        exact ⟨le_of_mul_le hkp (by grind), le_of_mul_le hkp (by grind)⟩
    have hzb : ab z ≤ 67108864 := by rw [ab_le]; grind
    have hyz : ab ((y0 : Rat) + qv) ≤ 33554433 := by
      have := near_le hqz
      have := mul_le_mul_l hzb (Rat.le_of_lt hu)
      rw [ab_le]; grind
    have hcz : ab (k * (c - (y0 + z))) ≤ 1 / 3 := by
      have h1 := ab_add (c - ((y0 : Rat) + qv)) (qv - z)
      rw [show c - ((y0 : Rat) + qv) + (qv - z) = c - (y0 + z) by grind] at h1
      have h2 := mul_le_mul_l hyz (Rat.le_of_lt hu)
      have h3 : ab (c - (y0 + z)) ≤ 33554433 * u64 + 6 * u64 * ab z + tiny64 := by grind
      rw [ab_mul]
      have h4 := mul_le_mul_l h3 hk0
      have h5 : ab k * ab z = ab ((e : Rat) - x0) := by rw [← ab_mul, ← hz]; congr 1; grind
      have h6 := mul_le_mul_l hex (Rat.le_of_lt hu)
      have h7 := mul_le_mul_r hkhigh (Rat.le_of_lt hu)
      have h8 := mul_le_mul_r hkhigh (Rat.le_of_lt ht0)
      rw [← h5] at h6
      clear h1 h2 h3 hyz hqz hzz hzl k1 k2 hqv hqb hdiv hxx hkx hst ks ks2
      grind
    have n1 := ab_le.1 hcz
    clear hcz hyz hqz hzz hzl k1 k2 hqv hqb hdiv hxx hkx ks ks2 hsvlow
    rcases hst with ⟨s1, s2⟩ | ⟨s1, s2⟩
    · have hkp : 0 ≤ k := by
        rcases rtot k 0 with h | h
        · have := mul_nn (show 0 ≤ -k by grind) (show 0 ≤ q - p by grind); grind
        · exact h
      constructor
      · rcases rtot c p with h | h
        · have := mul_nn hkp (show 0 ≤ p - c by grind); grind
        · by_cases h2 : c = p
          · subst h2; grind
          · grind
      · rcases rtot q c with h | h
        · have := mul_nn hkp (show 0 ≤ c - q by grind); grind
        · by_cases h2 : c = q
          · subst h2; grind
          · grind
    · have hkp : 0 ≤ -k := by
        rcases rtot 0 k with h | h
        · have := mul_nn h (show 0 ≤ q - p by grind); grind
        · grind
      constructor
      · rcases rtot c p with h | h
        · have := mul_nn hkp (show 0 ≤ p - c by grind); grind
        · by_cases h2 : c = p
          · subst h2; grind
          · grind
      · rcases rtot q c with h | h
        · have := mul_nn hkp (show 0 ≤ c - q by grind); grind
        · by_cases h2 : c = q
          · subst h2; grind
          · grind
end
end Go.Proofs.Ytmgcbodlolnheaa
