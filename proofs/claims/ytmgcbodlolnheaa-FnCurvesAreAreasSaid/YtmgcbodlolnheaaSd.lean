/- The reference's sum of an edge, in numbers. No program is in sight. -/
import Derived.Test.YtmgcbodlolnheaaSc
namespace Go.Proofs.Ytmgcbodlolnheaa
open Ieee

theorem sort2 {t b : Nat} (h : lt64 b t = false) : sortTo [t, b].length [t, b] = [t, b] := by
  simp [sortTo, sink, h]
theorem sort3 {t b c : Nat} (h : lt64 b t = false) (h1 : lt64 c b = true) (h2 : lt64 c t = false) : sortTo ([t, b] ++ [c]).length ([t, b] ++ [c]) = [t, c, b] := by
  simp [sortTo, sink, h, h1, h2]
theorem sort4 {t b c d : Nat} (h : lt64 b t = false) (h1 : lt64 c b = true) (h2 : lt64 c t = false) (h3 : lt64 d b = true) (h4 : lt64 d t = false) :
    sortTo ([t, b] ++ [c] ++ [d]).length ([t, b] ++ [c] ++ [d]) = if lt64 d c then [t, d, c, b] else [t, c, d, b] := by
  cases hdc : lt64 d c <;> simp [sortTo, sink, h, h1, h2, h3, h4, hdc]

def Chain (x0 y0 y1 : Int) (k : Rat) (px : Nat) : Rat → List (Nat × Rat) → Prop
  | _, [] => True
  | p, (w, c) :: L => F64 w c ∧ p ≤ c ∧ c ≤ y1 ∧ c - p ≤ 262144 ∧ ¬ Straddle x0 y0 k (262144 * px) p c ∧ ¬ Straddle x0 y0 k (262144 * px + 262144) p c ∧ Chain x0 y0 y1 k px c L
def lastV : Rat → List (Nat × Rat) → Rat
  | p, [] => p
  | _, (_, c) :: L => lastV c L

section
variable {right sign slope : Nat} {s k : Rat} {x0 y0 x1 y1 : Int} {px py : Nat}

theorem pp_one {p c : Rat} (h0 : p ≤ c) (h1 : c - p ≤ 262144) : ab (pp x0 y0 k px py c - pp x0 y0 k px py p) ≤ 1 := by
  rw [pp_dif]
  have m0 := mean_nn ((x0 + k * (p - y0)) / 262144 - px) ((x0 + k * (c - y0)) / 262144 - px)
  have m1 := mean_le ((x0 + k * (p - y0)) / 262144 - px) ((x0 + k * (c - y0)) / 262144 - px)
  have := ab_mul_le (show ab ((c - p) / 262144) ≤ 1 by rw [ab_le]; grind) (show ab (1 - mean ((x0 + k * (p - y0)) / 262144 - px) ((x0 + k * (c - y0)) / 262144 - px)) ≤ 1 by rw [ab_le]; grind)
  grind

theorem trapL_ok (P : LineP right sign slope s k x0 y0 x1 y1 px py) : ∀ (L : List (Nat × Rat)) (prev sum : Nat) (pv sm : Rat), F64 prev pv → (y0 : Rat) ≤ pv → F64 sum sm → ab sm + L.length * 70000000000 ≤ 20000000000000 → Chain x0 y0 y1 k px pv L →
    ∃ r v, trapL right (of64 262144) sign x0 y0 slope prev (L.map Prod.fst) sum = some r ∧ F64 r v ∧ ab (v - (sm + s * (68719476736 * (pp x0 y0 k px py (lastV pv L) - pp x0 y0 k px py pv)))) ≤ L.length * 264000 := by
  intro L
  induction L with
  | nil =>
    intro prev sum pv sm _ _ fs _ _
    refine ⟨sum, sm, rfl, fs, ?_⟩
    show ab (sm - (sm + s * (68719476736 * (pp x0 y0 k px py pv - pp x0 y0 k px py pv)))) ≤ ((0 : Nat) : Rat) * 264000
    rw [show sm - (sm + s * (68719476736 * (pp x0 y0 k px py pv - pp x0 y0 k px py pv))) = 0 by grind, show ab 0 = 0 by decide +kernel, show ((0 : Nat) : Rat) = 0 from rfl]
    grind
  | cons wc L ih =>
    intro prev sum pv sm fp h0 fs hb hch
    obtain ⟨w, c⟩ := wc
    obtain ⟨fw, hpc, hc1, hcp, hA, hB, hch'⟩ := hch
    have hl : (((w, c) :: L).length : Rat) = L.length + 1 := by rw [List.length_cons]; push_cast; rfl
    have hl0 : (0 : Rat) ≤ L.length := by exact_mod_cast Nat.zero_le _
    rw [hl] at hb
    obtain ⟨r, v, e1, f1, k1⟩ := piece_ok P fp fw fs (by grind) h0 hpc hc1 hcp hA hB
    have hone := pp_one (x0 := x0) (y0 := y0) (k := k) (px := px) (py := py) hpc hcp
    have hsab : ab s = 1 := by
      rcases P.hs with h | h
      · rw [h]; decide +kernel
      · rw [h]; decide +kernel
    have hv : ab v ≤ ab sm + 70000000000 := by
      have t1 := ab_add (v - (sm + s * (68719476736 * (pp x0 y0 k px py c - pp x0 y0 k px py pv)))) (sm + s * (68719476736 * (pp x0 y0 k px py c - pp x0 y0 k px py pv)))
      rw [show v - (sm + s * (68719476736 * (pp x0 y0 k px py c - pp x0 y0 k px py pv))) + (sm + s * (68719476736 * (pp x0 y0 k px py c - pp x0 y0 k px py pv))) = v by grind] at t1
      have t2 := ab_add sm (s * (68719476736 * (pp x0 y0 k px py c - pp x0 y0 k px py pv)))
      rw [ab_mul s, hsab, ab_mul 68719476736, show ab 68719476736 = 68719476736 by decide +kernel] at t2
      grind
    obtain ⟨r2, v2, e2, f2, k2⟩ := ih w r c v fw (by grind) f1 (by grind) hch'
    refine ⟨r2, v2, ?_, f2, ?_⟩
    · show (trapStep right (of64 262144) sign x0 y0 slope prev w sum).bind (fun s => trapL right (of64 262144) sign x0 y0 slope w (L.map Prod.fst) s) = _
      rw [e1, Option.bind_some]; exact e2
    · rw [hl]
      show ab (v2 - (sm + s * (68719476736 * (pp x0 y0 k px py (lastV c L) - pp x0 y0 k px py pv)))) ≤ _
      have n1 := ab_le.1 k1
      have n2 := ab_le.1 k2
      rw [ab_le]
      clear k1 k2 hone hv ih hA hB
      generalize pp x0 y0 k px py (lastV c L) = a3 at *
      generalize pp x0 y0 k px py c = a2 at *
      generalize pp x0 y0 k px py pv = a1 at *
      grind

theorem no_straddle {e c p q : Rat} (hb : ∀ p q : Rat, (y0 : Rat) ≤ p → p < q → q ≤ y1 → Straddle x0 y0 k e p q → p < c ∧ c < q) (h0 : (y0 : Rat) ≤ p) (hpq : p ≤ q) (h1 : q ≤ y1) (hn : ¬ (p < c ∧ c < q)) : ¬ Straddle x0 y0 k e p q := by
  intro h
  by_cases e : p = q
  · subst e
    unfold Straddle at h; grind
  · exact hn (hb p q h0 (by grind) h1 h)

end

/-- What an edge adds to a pixel's area. -/
def areaE (px py : Nat) (x0 y0 x1 y1 : Int) : Rat :=
  cl (y1 / 262144 - py) - cl (y0 / 262144 - py) - J (x0 / 262144 - px) (y0 / 262144 - py) (x1 / 262144 - px) (y1 / 262144 - py)

theorem imax_cast (a b : Int) : ((imax a b : Int) : Rat) = if (a : Rat) < b then (b : Rat) else a := by
  unfold imax
  by_cases h : b > a
  · rw [if_pos h, if_pos (Rat.intCast_lt_intCast.2 h)]
  · rw [if_neg h, if_neg (fun k => h (Rat.intCast_lt_intCast.1 k))]
theorem imin_cast (a b : Int) : ((imin a b : Int) : Rat) = if (b : Rat) < a then (b : Rat) else a := by
  unfold imin
  by_cases h : b < a
  · rw [if_pos h, if_pos (Rat.intCast_lt_intCast.2 h)]
  · rw [if_neg h, if_neg (fun k => h (Rat.intCast_lt_intCast.1 k))]

set_option maxHeartbeats 1000000 in
theorem area_down {sign sum : Nat} {s sm : Rat} {x0 y0 x1 y1 : Int} {px py : Nat} (hsg : F64 sign s) (hs : s = 1 ∨ s = -1) (bx0 : x0.natAbs ≤ 33554432) (by0 : y0.natAbs ≤ 33554432) (bx1 : x1.natAbs ≤ 33554432) (by1 : y1.natAbs ≤ 33554432)
    (hy : y0 ≤ y1) (hpx : px < 64) (hpy : py < 64) (fs : F64 sum sm) (bs : ab sm ≤ 19000000000000) :
    ∃ r v, areaDown sign x0 y0 x1 y1 px py 262144 sum = some r ∧ F64 r v ∧ ab (v - (sm + s * (68719476736 * areaE px py x0 y0 x1 y1))) ≤ 800000 := by
  have hyq : (y0 : Rat) ≤ y1 := Rat.intCast_le_intCast.2 hy
  have o1 : ((262144 * (py : Int) : Int) : Rat) = 262144 * py := by rw [Rat.intCast_mul, Rat.intCast_natCast]; rfl
  have o2 : ((262144 * (py : Int) + 262144 : Int) : Rat) = 262144 * py + 262144 := by rw [Rat.intCast_add, o1]; rfl
  have hT := imax_cast y0 (262144 * py)
  have hB := imin_cast y1 (262144 * py + 262144)
  rw [o1] at hT
  rw [o2] at hB
  have hTn : (imax y0 (262144 * py)).natAbs ≤ 33554432 := by unfold imax; split <;> omega
  have hBn : (imin y1 (262144 * py + 262144)).natAbs ≤ 33554432 := by unfold imin; split <;> omega
  have ft := of64_ok (imax y0 (262144 * py)) (by omega)
  have fb := of64_ok (imin y1 (262144 * py + 262144)) (by omega)
  have hpy0 : (0 : Rat) ≤ py := by exact_mod_cast Nat.zero_le py
  unfold areaDown
  dsimp only
  rw [ge64_eq ft fb]
  generalize ((imax y0 (262144 * py) : Int) : Rat) = T at *
  generalize ((imin y1 (262144 * py + 262144) : Int) : Rat) = Bt at *
  generalize of64 (imax y0 (262144 * py)) = tw at *
  generalize of64 (imin y1 (262144 * py + 262144)) = bw at *
  by_cases hc : Bt ≤ T
  · simp only [hc, decide_true, if_true]
    refine ⟨sum, sm, rfl, fs, ?_⟩
    have hcl : cl ((y1 : Rat) / 262144 - py) = cl ((y0 : Rat) / 262144 - py) := by
      by_cases h1 : (y1 : Rat) ≤ y0
      · rw [show (y1 : Rat) = y0 by grind]
      · by_cases h2 : (y1 : Rat) ≤ 262144 * py
        · rw [cl_low (x := (y1 : Rat) / 262144 - py) (by grind), cl_low (x := (y0 : Rat) / 262144 - py) (by grind)]
        · rw [cl_high (x := (y1 : Rat) / 262144 - py) (by grind), cl_high (x := (y0 : Rat) / 262144 - py) (by grind)]
    have hJ := J_abs ((x0 : Rat) / 262144 - px) ((y0 : Rat) / 262144 - py) ((x1 : Rat) / 262144 - px) ((y1 : Rat) / 262144 - py)
    rw [hcl, Rat.sub_self, show ab 0 = 0 by decide +kernel] at hJ
    have hJ0 := ab_le.1 hJ
    have hA : areaE px py x0 y0 x1 y1 = 0 := by unfold areaE; rw [hcl]; grind
    rw [hA, show sm - (sm + s * (68719476736 * 0)) = 0 by grind, show ab 0 = 0 by decide +kernel]
    decide +kernel
  · simp only [hc, decide_false, Bool.false_eq_true, if_false]
    have hTB : T < Bt := by grind
    have hT0 : (y0 : Rat) ≤ T := by grind
    have hB1 : Bt ≤ y1 := by grind
    have hTo : 262144 * (py : Rat) ≤ T := by grind
    have hBo : Bt ≤ 262144 * py + 262144 := by grind
    have hylt : y0 < y1 := Rat.intCast_lt_intCast.1 (show (y0 : Rat) < y1 by grind)
    have hyne : (y1 : Rat) - y0 ≠ 0 := by grind
    -- the slope
    have fx := of64_ok (x1 - x0) (by omega)
    have fy := of64_ok (y1 - y0) (by omega)
    rw [Rat.intCast_sub] at fx fy
    have hk := div_mul_self (a := (x1 : Rat) - x0) (b := (y1 : Rat) - y0) hyne
    have hy1 : (y0 : Rat) + 1 ≤ y1 := by
      have : ((y0 + 1 : Int) : Rat) ≤ y1 := Rat.intCast_le_intCast.2 (by omega)
      rwa [int_succ] at this
    have hxx : ab ((x1 : Rat) - x0) ≤ 67108864 := by
      have b0 := ab_le.1 (int_ab bx0)
      have b1 := ab_le.1 (int_ab bx1)
      rw [show ((33554432 : Nat) : Rat) = 33554432 from rfl] at b0 b1
      rw [ab_le]; grind
    have hkb : ab (((x1 : Rat) - x0) / ((y1 : Rat) - y0)) ≤ 67108864 := by
      have h1 : ab (((x1 : Rat) - x0) / ((y1 : Rat) - y0)) * ((y1 : Rat) - y0) = ab ((x1 : Rat) - x0) := by
        have := ab_mul (((x1 : Rat) - x0) / ((y1 : Rat) - y0)) ((y1 : Rat) - y0)
        rw [hk, ab_of_nonneg (show 0 ≤ (y1 : Rat) - y0 by grind)] at this
        exact this.symm
      have h2 := mul_le_mul_l (show 1 ≤ (y1 : Rat) - y0 by grind) (ab_nonneg (((x1 : Rat) - x0) / ((y1 : Rat) - y0)))
      grind
    obtain ⟨slw, slv, e1, f1, k1⟩ := f64_div fx fy hyne (Rat.le_trans hkb (le_huge (by decide +kernel)))
    have E1 : div64 (of64 (x1 - x0)) (of64 (y1 - y0)) = some slw := e1
    rw [E1, Option.bind_some]
    generalize ((x1 : Rat) - x0) / ((y1 : Rat) - y0) = k at *
    have fr := of64_ok (262144 * (px : Int) + 262144) (by omega)
    have o3 : ((262144 * (px : Int) + 262144 : Int) : Rat) = 262144 * px + 262144 := by rw [Rat.intCast_add, Rat.intCast_mul, Rat.intCast_natCast]; rfl
    rw [o3] at fr
    have P : LineP (of64 (262144 * (px : Int) + 262144)) sign slw s k x0 y0 x1 y1 px py := ⟨fr, hsg, hs, ⟨slv, f1, by have := mul_nn (Rat.le_of_lt u64_pos) (ab_nonneg k); grind⟩, hk, bx0, by0, bx1, by1, hylt, hpx, hpy⟩
    -- what all of it comes to
    have hA : pp x0 y0 k px py Bt - pp x0 y0 k px py T = areaE px py x0 y0 x1 y1 := by
      have h := along_add k (qk x0 y0 k px py) 0 (Yp py T) (Yp py Bt)
      have hj := J_line (k := k) (q := qk x0 y0 k px py) (x0 := (x0 : Rat) / 262144 - px) (y0 := (y0 : Rat) / 262144 - py) (x1 := (x1 : Rat) / 262144 - px) (y1 := (y1 : Rat) / 262144 - py) (by unfold qk; grind) (by unfold qk; grind)
      have c1 : cl ((y0 : Rat) / 262144 - py) = Yp py T := by unfold cl Yp; grind
      have c2 : cl ((y1 : Rat) / 262144 - py) = Yp py Bt := by unfold cl Yp; grind
      unfold areaE
      rw [hj, c1, c2]
      unfold pp
      grind
    have fin : ∀ L : List (Nat × Rat), L.length ≤ 3 → Chain x0 y0 y1 k px T L → lastV T L = Bt →
        ∃ r v, trapL (of64 (262144 * (px : Int) + 262144)) (of64 262144) sign x0 y0 slw tw (L.map Prod.fst) sum = some r ∧ F64 r v ∧ ab (v - (sm + s * (68719476736 * areaE px py x0 y0 x1 y1))) ≤ 800000 := by
      intro L hL hch hlast
      have hLq : (L.length : Rat) ≤ 3 := by have := nat_cast_le_of hL; exact this
      obtain ⟨r, v, g1, g2, g3⟩ := trapL_ok P L tw sum T sm ft hT0 fs (by grind) hch
      rw [hlast, hA] at g3
      exact ⟨r, v, g1, g2, by grind⟩
    have ltb : lt64 bw tw = false := by rw [lt64_eq fb ft]; simp; grind
    have hlen : Bt - T ≤ 262144 := by grind
    unfold cutsOf
    by_cases hx : x0 = x1
    · rw [if_pos hx, Option.bind_some, sort2 ltb]
      have hk0 : k = 0 := by
        have : k * ((y1 : Rat) - y0) = 0 := by rw [hk, hx]; grind
        rcases Rat.mul_eq_zero.1 this with h | h
        · exact h
        · exact absurd h hyne
      refine fin [(bw, Bt)] (by simp) ⟨fb, by grind, hB1, hlen, ?_, ?_, trivial⟩ rfl
      · rw [hk0]; unfold Straddle; grind
      · rw [hk0]; unfold Straddle; grind
    · rw [if_neg hx]
      obtain ⟨ca, cav, fca, hca, bta⟩ := cut_ok P hx ft fb (262144 * (px : Int)) (by omega)
      obtain ⟨cb, cbv, fcb, hcb, btb⟩ := cut_ok P hx ft fb (262144 * (px : Int) + 262144) (by omega)
      have o4 : ((262144 * (px : Int) : Int) : Rat) = 262144 * px := by rw [Rat.intCast_mul, Rat.intCast_natCast]; rfl
      rw [o4] at bta
      rw [o3] at btb
      rw [hca, Option.bind_some, hcb, Option.bind_some]
      have nsA : ∀ p q : Rat, T ≤ p → p ≤ q → q ≤ Bt → ¬ (p < cav ∧ cav < q) → ¬ Straddle x0 y0 k (262144 * px) p q := fun p q h0 h1 h2 h3 => no_straddle bta (by grind) h1 (by grind) h3
      have nsB : ∀ p q : Rat, T ≤ p → p ≤ q → q ≤ Bt → ¬ (p < cbv ∧ cbv < q) → ¬ Straddle x0 y0 k (262144 * px + 262144) p q := fun p q h0 h1 h2 h3 => no_straddle btb (by grind) h1 (by grind) h3
      clear bta btb hca hcb
      by_cases hA1 : T < cav ∧ cav < Bt
      · rw [if_pos hA1]
        have la1 : lt64 ca bw = true := by rw [lt64_eq fca fb]; simp; grind
        have la2 : lt64 ca tw = false := by rw [lt64_eq fca ft]; simp; grind
        by_cases hB2 : T < cbv ∧ cbv < Bt
        · rw [if_pos hB2]
          have lb1 : lt64 cb bw = true := by rw [lt64_eq fcb fb]; simp; grind
          have lb2 : lt64 cb tw = false := by rw [lt64_eq fcb ft]; simp; grind
          rw [sort4 ltb la1 la2 lb1 lb2, lt64_eq fcb fca]
          by_cases hba : cbv < cav
          · simp only [hba, decide_true, if_true]
            refine fin [(cb, cbv), (ca, cav), (bw, Bt)] (by simp) ⟨fcb, by grind, by grind, by grind, nsA _ _ (by grind) (by grind) (by grind) (by grind), nsB _ _ (by grind) (by grind) (by grind) (by grind), fca, by grind, by grind, by grind, nsA _ _ (by grind) (by grind) (by grind) (by grind), nsB _ _ (by grind) (by grind) (by grind) (by grind), fb, by grind, by grind, by grind, nsA _ _ (by grind) (by grind) (by grind) (by grind), nsB _ _ (by grind) (by grind) (by grind) (by grind), trivial⟩ rfl
          · simp only [hba, decide_false, Bool.false_eq_true, if_false]
            refine fin [(ca, cav), (cb, cbv), (bw, Bt)] (by simp) ⟨fca, by grind, by grind, by grind, nsA _ _ (by grind) (by grind) (by grind) (by grind), nsB _ _ (by grind) (by grind) (by grind) (by grind), fcb, by grind, by grind, by grind, nsA _ _ (by grind) (by grind) (by grind) (by grind), nsB _ _ (by grind) (by grind) (by grind) (by grind), fb, by grind, by grind, by grind, nsA _ _ (by grind) (by grind) (by grind) (by grind), nsB _ _ (by grind) (by grind) (by grind) (by grind), trivial⟩ rfl
        · rw [if_neg hB2, sort3 ltb la1 la2]
          refine fin [(ca, cav), (bw, Bt)] (by simp) ⟨fca, by grind, by grind, by grind, nsA _ _ (by grind) (by grind) (by grind) (by grind), nsB _ _ (by grind) (by grind) (by grind) (by grind), fb, by grind, by grind, by grind, nsA _ _ (by grind) (by grind) (by grind) (by grind), nsB _ _ (by grind) (by grind) (by grind) (by grind), trivial⟩ rfl
      · rw [if_neg hA1]
        by_cases hB2 : T < cbv ∧ cbv < Bt
        · rw [if_pos hB2]
          have lb1 : lt64 cb bw = true := by rw [lt64_eq fcb fb]; simp; grind
          have lb2 : lt64 cb tw = false := by rw [lt64_eq fcb ft]; simp; grind
          rw [sort3 ltb lb1 lb2]
          refine fin [(cb, cbv), (bw, Bt)] (by simp) ⟨fcb, by grind, by grind, by grind, nsA _ _ (by grind) (by grind) (by grind) (by grind), nsB _ _ (by grind) (by grind) (by grind) (by grind), fb, by grind, by grind, by grind, nsA _ _ (by grind) (by grind) (by grind) (by grind), nsB _ _ (by grind) (by grind) (by grind) (by grind), trivial⟩ rfl
        · rw [if_neg hB2, sort2 ltb]
          refine fin [(bw, Bt)] (by simp) ⟨fb, by grind, by grind, by grind, nsA _ _ (by grind) (by grind) (by grind) (by grind), nsB _ _ (by grind) (by grind) (by grind) (by grind), trivial⟩ rfl
end Go.Proofs.Ytmgcbodlolnheaa
