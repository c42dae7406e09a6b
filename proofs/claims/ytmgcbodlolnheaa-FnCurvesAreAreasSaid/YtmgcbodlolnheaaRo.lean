/- Square roots of words, and in how many lines a curve is drawn. No program is in sight. -/
import Derived.Test.YtmgcbodlolnheaaRn
namespace Go.Proofs.Ytmgcbodlolnheaa
open Ieee

theorem rootFrom_ok (n : Nat) : ∀ (todo root : Nat), root * root ≤ n → n < (root + 2 ^ todo) * (root + 2 ^ todo) →
    Datum.rootFrom n todo root * Datum.rootFrom n todo root ≤ n ∧ n < (Datum.rootFrom n todo root + 1) * (Datum.rootFrom n todo root + 1) := by
  intro todo
  induction todo with
  | zero => intro root h0 h1; exact ⟨h0, h1⟩
  | succ todo ih =>
    intro root h0 h1
    unfold Datum.rootFrom
    simp only [Nat.one_shiftLeft]
    by_cases h : (root + 2 ^ todo) * (root + 2 ^ todo) ≤ n
    · rw [if_pos h]
      refine ih _ h ?_
      have e : root + 2 ^ (todo + 1) = root + 2 ^ todo + 2 ^ todo := by rw [Nat.pow_succ]; omega
      rw [e] at h1; exact h1
    · rw [if_neg h]
      exact ih _ h0 (by omega)

def rootErr : Rat := 1 / 1099511627776

set_option maxHeartbeats 1000000 in
theorem sqrt_ok {x : Nat} {v : Rat} (hx : F64 x v) (hv0 : 1 / 1000000 ≤ v) (hv1 : v ≤ 1000000000) :
    ∃ r c, sqrt64 x = some r ∧ F64 r c ∧ 0 ≤ c ∧ ab (c * c - v) ≤ rootErr * v := by
  obtain ⟨s, m, i, hr, rfl⟩ := hx
  have hm : m ≠ 0 := by
    rintro rfl
    have : num s 0 i = 0 := by unfold num; grind
    rw [this] at hv0; grind
  have hs : s = false := by
    cases s
    · rfl
    · have : 0 ≤ (m : Rat) * p2 i := Rat.mul_nonneg Rat.natCast_nonneg (Rat.le_of_lt (p2_pos _))
      unfold num at hv0; simp only [if_true] at hv0; grind
  subst hs
  -- the whole root
  obtain ⟨more, hmore, hpar⟩ : ∃ more : Nat, 2 * 54 - m.log2 + ((i - ((2 * 54 - m.log2 : Nat) : Int)) % 2).toNat = more ∧ (i - (more : Int)) % 2 = 0 := by
    refine ⟨_, rfl, ?_⟩
    omega
  have hge : 2 * 54 ≤ m.log2 + more := by omega
  have hroot : (double.read x).root (double.fractionBits + 2) = some (.number false (2 * Datum.rootFrom (m <<< more) ((m <<< more).log2 / 2 + 1) 0 + (Datum.rootFrom (m <<< more) ((m <<< more).log2 / 2 + 1) 0 * Datum.rootFrom (m <<< more) ((m <<< more).log2 / 2 + 1) 0 != m <<< more).toNat) ((i - more) / 2 - 1)) := by
    rw [hr]
    unfold Datum.root
    dsimp only
    rw [if_neg hm]
    simp only [Bool.false_eq_true, if_false]
    rw [show double.fractionBits + 2 = 54 from rfl, hmore]
  generalize hn : m <<< more = n at *
  have hnlow : 2 ^ 108 ≤ n := by
    rw [← hn, Nat.shiftLeft_eq]
    have h1 : 2 ^ m.log2 * 2 ^ more ≤ m * 2 ^ more := Nat.mul_le_mul_right _ (Nat.log2_self_le hm)
    rw [← Nat.pow_add] at h1
    have h2 : 2 ^ 108 ≤ 2 ^ (m.log2 + more) := Nat.pow_le_pow_right (by omega) hge
    omega
  have hrf := rootFrom_ok n (n.log2 / 2 + 1) 0 (by omega) (by
    rw [Nat.zero_add, ← Nat.pow_add]
    have h1 : n < 2 ^ (n.log2 + 1) := Nat.lt_log2_self
    have h2 : 2 ^ (n.log2 + 1) ≤ 2 ^ (n.log2 / 2 + 1 + (n.log2 / 2 + 1)) := Nat.pow_le_pow_right (by omega) (by omega)
    omega)
  generalize Datum.rootFrom n (n.log2 / 2 + 1) 0 = w at *
  have hw : 2 ^ 53 ≤ w := by
    apply Nat.le_of_not_lt
    intro hc
    have : (w + 1) * (w + 1) ≤ 2 ^ 53 * 2 ^ 53 := Nat.mul_le_mul hc hc
    rw [← Nat.pow_add] at this
    have h2 : 2 ^ (53 + 53) < 2 ^ 108 := by decide
    omega
  generalize hb : (w * w != n).toNat = bit at *
  have hbit : (bit = 0 → w * w = n) ∧ bit ≤ 1 := by
    rw [← hb]
    constructor
    · intro h
      simpa using h
    · cases (w * w != n) <;> decide
  obtain ⟨h, hh⟩ : ∃ h : Int, i - more = 2 * h := ⟨(i - more) / 2, by omega⟩
  have hh2 : (i - more) / 2 = h := by omega
  rw [hh2] at hroot
  have hP := p2_pos (h - 1)
  have eP : p2 h = 2 * p2 (h - 1) := by have := p2_step (h - 1); rwa [show h - 1 + 1 = h by omega] at this
  have ev : num false m i = n * (p2 h * p2 h) := by
    unfold num
    simp only [Bool.false_eq_true, if_false, Rat.one_mul]
    rw [← p2_add, ← hn, Nat.shiftLeft_eq, Rat.natCast_mul, natCast_p2, show h + h = i - more by omega]
    have : p2 i = p2 more * p2 (i - more) := by rw [← p2_add]; congr 1; omega
    rw [this]; grind
  have he : num false (2 * w + bit) (h - 1) = (w + (bit : Rat) / 2) * p2 h := by
    unfold num
    simp only [Bool.false_eq_true, if_false, Rat.one_mul]
    rw [eP, Rat.natCast_add, Rat.natCast_mul]
    have : ((2 : Nat) : Rat) = 2 := rfl
    grind
  have hwq : (9007199254740992 : Rat) ≤ w := by
    have := Rat.natCast_le_natCast.2 hw
    have e : ((2 ^ 53 : Nat) : Rat) = 9007199254740992 := by decide +kernel
    rwa [e] at this
  have hPP := Rat.mul_pos (p2_pos h) (p2_pos h)
  have hw0 : (0 : Rat) ≤ w := by grind
  have hnw : (w : Rat) * w ≤ n := by exact_mod_cast hrf.1
  have hnw2 : (n : Rat) ≤ w * w + 2 * w := by
    have : n ≤ w * w + 2 * w := by have := hrf.2; rw [Nat.add_mul, Nat.mul_add] at this; omega
    exact_mod_cast this
  have hww := mul_le_mul_r hwq hw0
  have hsq : ab ((w + (bit : Rat) / 2) * (w + (bit : Rat) / 2) - n) ≤ 1 / 4503599627370496 * n := by
    by_cases h0 : bit = 0
    · have : (w : Rat) * w = n := by exact_mod_cast hbit.1 h0
      subst h0
      have z : ((0 : Nat) : Rat) = 0 := rfl
      rw [z, show ((w : Rat) + 0 / 2) * (w + 0 / 2) - n = 0 by grind, show ab 0 = 0 by decide +kernel]
      grind
    · have h1 : bit = 1 := by omega
      subst h1
      have z : ((1 : Nat) : Rat) = 1 := rfl
      rw [z, ab_le]
      constructor <;> grind
  -- how great it is
  have hek : num false (2 * w + bit) (h - 1) * num false (2 * w + bit) (h - 1) = ((w + (bit : Rat) / 2) * (w + (bit : Rat) / 2)) * (p2 h * p2 h) := by rw [he]; grind
  generalize hE : num false (2 * w + bit) (h - 1) = E at *
  have hE0 : 0 ≤ E := by
    rw [he]
    have : (0 : Rat) ≤ bit := by exact_mod_cast Nat.zero_le bit
    exact mul_nn (by grind) (Rat.le_of_lt (p2_pos h))
  rw [ev] at hv0 hv1 ⊢
  have hdE : ab (E * E - n * (p2 h * p2 h)) ≤ 1 / 4503599627370496 * (n * (p2 h * p2 h)) := by
    rw [hek, show ((w + (bit : Rat) / 2) * (w + (bit : Rat) / 2)) * (p2 h * p2 h) - n * (p2 h * p2 h) = ((w + (bit : Rat) / 2) * (w + (bit : Rat) / 2) - n) * (p2 h * p2 h) by grind, ab_mul, ab_of_nonneg (Rat.le_of_lt hPP)]
    have := mul_le_mul_r hsq (Rat.le_of_lt hPP)
    grind
  generalize (n : Rat) * (p2 h * p2 h) = V at *
  have nE := near_le hdE
  have hEb : E ≤ 100000 := by
    rcases rtot E 100000 with hc | hc
    · exact hc
    · have := mul_le_mul_r hc (show 0 ≤ (100000 : Rat) by grind)
      have := mul_le_mul_l hc hE0
      grind
  obtain ⟨c, hc, hrd⟩ := nearest_rounds double ieee_eb64 false (2 * w + bit) (h - 1) (num_lt_top hE (rlt_of_le_of_lt (Rat.le_trans (show ab E ≤ 1000000 by rw [ab_of_nonneg hE0]; grind) (le_huge (by decide +kernel))) huge_lt64))
  rw [hE] at hrd
  have hn2 := hrd.near
  rw [u64_eq, least64, ab_of_nonneg hE0] at hn2
  have ht : p2 (-1074) ≤ 1 / 1000000000000000000000000000000 := tiny64_le
  have hu : u64 = 1 / 9007199254740992 := rfl
  have hElow : 1 / 2000 ≤ E := by
    rcases rtot (1 / 2000) E with hc2 | hc2
    · exact hc2
    · have := mul_le_mul_r hc2 hE0
      grind
  have hce : ab (c - E) ≤ 1 / 4503599627370496 * E := by rw [hu] at hn2; grind
  have cn := near_le hce
  refine ⟨_, c, ?_, hc, hrd.nonneg hE0, ?_⟩
  · show Option.map double.write ((double.read x).root (double.fractionBits + 2)) = _
    rw [hroot]; rfl
  · have h1 : ab ((c - E) * (c + E)) ≤ 1 / 4503599627370496 * E * (3 * E) := ab_mul_le hce (by rw [ab_le]; grind)
    have h2 := ab_le.1 h1
    have hEE := mul_nn hE0 hE0
    unfold rootErr
    rw [ab_le]
    clear hc hrd hn2 hce hek he hE hroot hbit hb hh hh2 hn hsq hPP hP eP ev hrf hnw hnw2 hww
    constructor <;> grind

theorem exact6 {e c : Rat} (r : Rounds single e c) (h : Mult (-6) e) (hb : ab e ≤ 2048) : c = e := by
  obtain ⟨k, rfl⟩ := h
  have e6 : p2 (-6) = 1 / 64 := by have := p2_negNat 6; exact this.trans (by decide +kernel)
  refine r.exact k (-6) (by rw [least32]; omega) ?_ rfl
  have h9 : p2 (single.fractionBits + 1) = 16777216 := by have := p2_nat 24; exact this.trans (by decide +kernel)
  rw [h9]
  rw [ab_mul, e6, show ab (1 / 64) = 1 / 64 by decide +kernel] at hb
  grind

theorem dev_ok {a b c : Nat} {av bv cv : Rat} (ha : F32 a av) (hb : F32 b bv) (hc : F32 c cv) (ma : Mult (-6) av) (mb : Mult (-6) bv) (mc : Mult (-6) cv) (ba : ab av ≤ 128) (bb : ab bv ≤ 128) (bc : ab cv ≤ 128) :
    ∃ w, dev a b c = some w ∧ F32 w (av - 2 * bv + cv) := by
  have ba' := ab_le.1 ba
  have bb' := ab_le.1 bb
  have bc' := ab_le.1 bc
  have m2 : Mult (-6) (2 * bv) := by have := mb.add mb; rwa [show bv + bv = 2 * bv by grind] at this
  have b2 : ab (2 * bv) ≤ 256 := by rw [ab_le]; grind
  obtain ⟨e, ev, e1, f1, r1, _⟩ := mulB v_two hb b2 (by decide +kernel)
  rw [exact6 r1 m2 (by grind)] at f1
  have b3 : ab (av - 2 * bv) ≤ 384 := by rw [ab_le]; grind
  obtain ⟨g, gv, e2, f2, r2, _⟩ := subB ha f1 b3 (by decide +kernel)
  rw [exact6 r2 (ma.sub m2) (by grind)] at f2
  have b4 : ab (av - 2 * bv + cv) ≤ 512 := by rw [ab_le]; grind
  obtain ⟨h, hv, e3, f3, r3, _⟩ := addB f2 hc b4 (by decide +kernel)
  rw [exact6 r3 ((ma.sub m2).add mc) (by grind)] at f3
  refine ⟨h, ?_, f3⟩
  unfold dev
  rw [e1, Option.bind_some, e2, Option.bind_some, e3]

theorem devSq_ok {ax ay bx bY cx cy : Nat} {dx dy : Rat} {wx wy : Nat} (hx : dev ax bx cx = some wx) (hy : dev ay bY cy = some wy) (fx : F32 wx dx) (fy : F32 wy dy) (bx' : ab dx ≤ 512) (by' : ab dy ≤ 512) :
    ∃ w v, devSq ax ay bx bY cx cy = some w ∧ F32 w v ∧ ab (v - (dx * dx + dy * dy)) ≤ 3 * u32 * (dx * dx + dy * dy) + 3 * tiny32 := by
  have hu := u32_pos
  have hu2 : u32 ≤ 1 / 16000000 := by decide +kernel
  have ht0 := tiny32_pos
  have ht := tiny_u
  have bxx := ab_mul_le bx' bx'
  have byy := ab_mul_le by' by'
  have sx := sq_nn dx
  have sy := sq_nn dy
  rw [ab_of_nonneg sx] at bxx
  rw [ab_of_nonneg sy] at byy
  obtain ⟨p, pv, e1, f1, _, k1⟩ := f32_mul fx fx (by rw [ab_of_nonneg sx]; exact Rat.le_trans bxx (le_huge (by decide +kernel)))
  obtain ⟨q, qv, e2, f2, _, k2⟩ := f32_mul fy fy (by rw [ab_of_nonneg sy]; exact Rat.le_trans byy (le_huge (by decide +kernel)))
  rw [ab_of_nonneg sx] at k1
  rw [ab_of_nonneg sy] at k2
  have n1 := near_le k1
  have n2 := near_le k2
  have ux := mul_le_mul_r hu2 sx
  have uy := mul_le_mul_r hu2 sy
  have ux0 := mul_nn (Rat.le_of_lt hu) sx
  have uy0 := mul_nn (Rat.le_of_lt hu) sy
  have hpq : ab (pv + qv) ≤ 101 / 100 * (dx * dx + dy * dy) + 3 * tiny32 := by rw [ab_le]; grind
  obtain ⟨r, rv, e3, f3, _, k3⟩ := f32_add f1 f2 (Rat.le_trans hpq (Rat.le_trans (show _ ≤ (1000000 : Rat) by grind) (le_huge (by decide +kernel))))
  refine ⟨r, rv, ?_, f3, ?_⟩
  · have E1 : mul32 wx wx = some p := e1
    have E2 : mul32 wy wy = some q := e2
    have E3 : add32 p q = some r := e3
    unfold devSq
    simp only [hx, hy, E1, E2, E3, Option.bind_some]
  · have k4 := mul_le_mul_l hpq (Rat.le_of_lt hu)
    have t2 := mul_le_mul_r hu2 (Rat.le_of_lt ht0)
    have n3 := near_le k3
    rw [ab_le]
    clear k1 k2 k3 hpq
    grind

set_option maxHeartbeats 1000000 in
theorem segments_ok {dq : Nat} {v : Rat} (hd : F32 dq v) (h0 : 3 / 10 ≤ v) (h1 : v ≤ 525000) : ∃ n : Nat, segments dq = some (n : Int) ∧ 1 ≤ n ∧ n ≤ 36 ∧ 3 * v * (1 - 1 / 1000000) ≤ (n : Rat) * n * (n * n) := by
  obtain ⟨e, e1, f1⟩ := f32_to64 hd (Rat.le_trans (show ab v ≤ 525000 by rw [ab_le]; grind) (le_huge (by decide +kernel)))
  have b3 : ab (3 * v) ≤ 1575000 := by rw [ab_le]; grind
  obtain ⟨g, gv, e2, f2, _, k2⟩ := f64_mul v_d3 f1 (Rat.le_trans b3 (le_huge (by decide +kernel)))
  rw [ab_of_nonneg (show 0 ≤ 3 * v by grind)] at k2
  have ht := tiny64_le
  have hu : u64 = 1 / 9007199254740992 := rfl
  rw [hu] at k2
  have n2 := near_le k2
  have hg : ab (gv - 3 * v) ≤ 1 / 100000000 * (3 * v) := by rw [ab_le]; grind
  have ng := near_le hg
  obtain ⟨r, rv, e3, f3, r0, k3⟩ := sqrt_ok f2 (by grind) (by grind)
  have hre : rootErr = 1 / 1099511627776 := rfl
  rw [hre] at k3
  have n3 := near_le k3
  have rlow : 9 / 10 ≤ rv := by
    rcases rtot (9 / 10) rv with h | h
    · exact h
    · have := mul_le_mul_r h r0; grind
  have rhigh : rv ≤ 1256 := by
    rcases rtot rv 1256 with h | h
    · exact h
    · have := mul_le_mul_r h (show (0 : Rat) ≤ 1256 by grind)
      have := mul_le_mul_l h r0
      grind
  obtain ⟨q, qv, e4, f4, q0, k4⟩ := sqrt_ok f3 (by grind) (by grind)
  rw [hre] at k4
  have n4 := near_le k4
  have qhigh : qv < 36 := by
    rcases rtot 36 qv with h | h
    · have := mul_le_mul_r h (show (0 : Rat) ≤ 36 by grind)
      have := mul_le_mul_l h q0
      grind
    · by_cases hq : qv = 36
      · rw [hq] at n4; grind
      · grind
  obtain ⟨s, m, ee, hr, hv⟩ := f4
  have hti : (Datum.number s m ee).toInt .zero = some qv.floor := by
    have := toInt_zero (s := s) (m := m) (e := ee) (by rw [hv]; exact q0)
    rw [hv] at this; exact this
  obtain ⟨fl1, fl2⟩ := floor_bounds qv
  have hk0 : 0 ≤ qv.floor := by
    have : ((-1 : Int) : Rat) < qv.floor := by rw [show ((-1 : Int) : Rat) = -1 by decide +kernel]; grind
    have := Rat.intCast_lt_intCast.1 this
    omega
  have hk1 : qv.floor ≤ 35 := by
    have : (qv.floor : Rat) < ((36 : Int) : Rat) := by rw [show ((36 : Int) : Rat) = 36 by decide +kernel]; grind
    have := Rat.intCast_lt_intCast.1 this
    omega
  obtain ⟨K, hK⟩ := Int.eq_ofNat_of_zero_le hk0
  refine ⟨K + 1, ?_, by omega, by omega, ?_⟩
  · have hfi : floatToIntVal .f64 q .i64 = some qv.floor := by
      unfold floatToIntVal
      have : FloatKind.f64.decode q = .number s m ee := hr
      rw [this, hti]
      have e1 : IntKind.i64.min = -9223372036854775808 := by decide
      have e2 : IntKind.i64.max = 9223372036854775807 := by decide
      simp only
      rw [if_pos (by omega)]
    have E2 : mul64 d3 e = some g := e2
    unfold segments
    rw [e1, Option.bind_some, E2, Option.bind_some, e3, Option.bind_some, e4, Option.bind_some, hfi, Option.bind_some, if_pos (by omega), hK]
    congr 1; push_cast; omega
  · have hKq : (qv.floor : Rat) = K := by rw [hK, Rat.intCast_natCast]
    rw [hKq] at fl1 fl2
    have hK0 : (0 : Rat) ≤ K := by exact_mod_cast Nat.zero_le K
    push_cast
    have a1 := mul_le_mul_r (Rat.le_of_lt fl2) q0
    have a2 := mul_le_mul_l (Rat.le_of_lt fl2) (show 0 ≤ (K : Rat) + 1 by grind)
    have a3 : (1 - 1 / 1099511627776) * rv ≤ ((K : Rat) + 1) * (K + 1) := by grind
    have a0 : 0 ≤ (1 - 1 / 1099511627776) * rv := by grind
    have a4 := mul_le_mul_r a3 a0
    have a5 := mul_le_mul_l a3 (show 0 ≤ ((K : Rat) + 1) * (K + 1) by grind)
    generalize ((K : Rat) + 1) * (K + 1) = A at *
    clear a1 a2 a3 k2 k3 k4 hg fl1 fl2 n4
    grind
end Go.Proofs.Ytmgcbodlolnheaa
