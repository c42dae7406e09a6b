/- The reference's sum of a polygon, and what is near. No program is in sight. -/
import Derived.Test.YtmgcbodlolnheaaSd
namespace Go.Proofs.Ytmgcbodlolnheaa
open Ieee

def EdgeIn (e : Edge) : Prop := e.x0.natAbs ≤ 33554432 ∧ e.y0.natAbs ≤ 33554432 ∧ e.x1.natAbs ≤ 33554432 ∧ e.y1.natAbs ≤ 33554432
def aE (px py : Nat) (e : Edge) : Rat := areaE px py e.x0 e.y0 e.x1 e.y1
def sumA (px py : Nat) : List Edge → Rat
  | [] => 0
  | e :: l => aE px py e + sumA px py l

theorem areaE_rev (px py : Nat) (x0 y0 x1 y1 : Int) : areaE px py x1 y1 x0 y0 = - areaE px py x0 y0 x1 y1 := by
  unfold areaE
  rw [J_rev ((x0 : Rat) / 262144 - px)]; grind
theorem areaE_abs (px py : Nat) (x0 y0 x1 y1 : Int) : ab (areaE px py x0 y0 x1 y1) ≤ 2 := by
  unfold areaE
  have h1 := ab_cl1 ((y0 : Rat) / 262144 - py) ((y1 : Rat) / 262144 - py)
  have h2 := J_abs ((x0 : Rat) / 262144 - px) ((y0 : Rat) / 262144 - py) ((x1 : Rat) / 262144 - px) ((y1 : Rat) / 262144 - py)
  have h3 := ab_sub (cl ((y1 : Rat) / 262144 - py) - cl ((y0 : Rat) / 262144 - py)) (J ((x0 : Rat) / 262144 - px) ((y0 : Rat) / 262144 - py) ((x1 : Rat) / 262144 - px) ((y1 : Rat) / 262144 - py))
  grind

theorem area_edge {sum : Nat} {sm : Rat} {e : Edge} {px py : Nat} (he : EdgeIn e) (hpx : px < 64) (hpy : py < 64) (fs : F64 sum sm) (bs : ab sm ≤ 19000000000000) :
    ∃ r v, areaEdge e px py 262144 sum = some r ∧ F64 r v ∧ ab (v - (sm + 68719476736 * aE px py e)) ≤ 800000 := by
  obtain ⟨h0, h1, h2, h3⟩ := he
  unfold areaEdge aE
  by_cases h : e.y1 < e.y0
  · rw [if_pos h]
    obtain ⟨r, v, g1, g2, g3⟩ := area_down v_dm1 (.inr rfl) h2 h3 h0 h1 (by omega) hpx hpy fs bs
    rw [areaE_rev] at g3
    refine ⟨r, v, g1, g2, ?_⟩
    rw [show sm + -1 * (68719476736 * -areaE px py e.x0 e.y0 e.x1 e.y1) = sm + 68719476736 * areaE px py e.x0 e.y0 e.x1 e.y1 by grind] at g3
    exact g3
  · rw [if_neg h]
    obtain ⟨r, v, g1, g2, g3⟩ := area_down v_d1 (.inl rfl) h0 h1 h2 h3 (by omega) hpx hpy fs bs
    rw [Rat.one_mul] at g3
    exact ⟨r, v, g1, g2, g3⟩

theorem area_sum {px py : Nat} (hpx : px < 64) (hpy : py < 64) : ∀ (l : List Edge) (sum : Nat) (sm : Rat), (∀ e, e ∈ l → EdgeIn e) → F64 sum sm → ab sm + l.length * 140000000000 ≤ 19000000000000 →
    ∃ r v, areaSum px py 262144 l sum = some r ∧ F64 r v ∧ ab (v - (sm + 68719476736 * sumA px py l)) ≤ l.length * 800000 := by
  intro l
  induction l with
  | nil =>
    intro sum sm _ fs _
    refine ⟨sum, sm, rfl, fs, ?_⟩
    show ab (sm - (sm + 68719476736 * 0)) ≤ ((0 : Nat) : Rat) * 800000
    rw [show sm - (sm + 68719476736 * 0) = 0 by grind, show ab 0 = 0 by decide +kernel, show ((0 : Nat) : Rat) = 0 from rfl]
    grind
  | cons e l ih =>
    intro sum sm hl fs hb
    have hlen : ((e :: l).length : Rat) = l.length + 1 := by rw [List.length_cons]; push_cast; rfl
    have hl0 : (0 : Rat) ≤ l.length := by exact_mod_cast Nat.zero_le _
    rw [hlen] at hb
    obtain ⟨r, v, g1, g2, g3⟩ := area_edge (hl e List.mem_cons_self) hpx hpy fs (by grind)
    have ha : ab (aE px py e) ≤ 2 := areaE_abs _ _ _ _ _ _
    have hv : ab v ≤ ab sm + 140000000000 := by
      have t1 := ab_add (v - (sm + 68719476736 * aE px py e)) (sm + 68719476736 * aE px py e)
      rw [show v - (sm + 68719476736 * aE px py e) + (sm + 68719476736 * aE px py e) = v by grind] at t1
      have t2 := ab_add sm (68719476736 * aE px py e)
      rw [ab_mul, show ab 68719476736 = 68719476736 by decide +kernel] at t2
      grind
    obtain ⟨r2, v2, q1, q2, q3⟩ := ih r v (fun e' h => hl e' (List.mem_cons_of_mem _ h)) g2 (by grind)
    refine ⟨r2, v2, ?_, q2, ?_⟩
    · unfold areaSum
      rw [g1, Option.bind_some]; exact q1
    · rw [hlen]
      have e2 : sumA px py (e :: l) = aE px py e + sumA px py l := rfl
      rw [e2]
      have n1 := ab_le.1 g3
      have n2 := ab_le.1 q3
      rw [ab_le]
      clear g3 q3 ha hv
      grind

theorem sumA_abs (px py : Nat) (l : List Edge) : ab (sumA px py l) ≤ l.length * 2 := by
  induction l with
  | nil => show ab 0 ≤ ((0 : Nat) : Rat) * 2; rw [show ab 0 = 0 by decide +kernel, show ((0 : Nat) : Rat) = 0 from rfl]; grind
  | cons e l ih =>
    have hlen : ((e :: l).length : Rat) = l.length + 1 := by rw [List.length_cons]; push_cast; rfl
    have h1 : ab (aE px py e) ≤ 2 := areaE_abs _ _ _ _ _ _
    have h2 := ab_add (aE px py e) (sumA px py l)
    show ab (aE px py e + sumA px py l) ≤ _
    rw [hlen]; grind

theorem area_ok {px py : Nat} (hpx : px < 64) (hpy : py < 64) (l : List Edge) (hl : l.length = 65) (he : ∀ e, e ∈ l → EdgeIn e) :
    ∃ r v, areaP l px py 262144 = some r ∧ F64 r v ∧ ab (v - sumA px py l) ≤ 1 / 1000 := by
  have hul := u64_small
  have hu := u64_pos
  have htl : tiny64 ≤ 1 / 1000000 := Rat.le_trans tiny64_le (by decide +kernel)
  have hlq : (l.length : Rat) = 65 := by rw [hl]; rfl
  obtain ⟨r, v, g1, g2, g3⟩ := area_sum hpx hpy l 0 0 he v64_zero (by rw [hlq, show ab 0 = 0 by decide +kernel]; decide +kernel)
  have hb := sumA_abs px py l
  rw [hlq] at g3 hb
  have fo := of64_ok (262144 * 262144) (by decide)
  rw [show ((262144 * 262144 : Int) : Rat) = 68719476736 by decide +kernel] at fo
  have n1 := ab_le.1 g3
  have n2 := ab_le.1 hb
  have hq : ab (v / 68719476736 - sumA px py l) ≤ 8 / 10000 := by rw [ab_le]; grind
  have n3 := ab_le.1 hq
  have hvb : ab (v / 68719476736) ≤ 131 := by rw [ab_le]; grind
  obtain ⟨q, qv, e1, f1, k1⟩ := f64_div g2 fo (by decide +kernel) (Rat.le_trans hvb (le_huge (by decide +kernel)))
  refine ⟨q, qv, ?_, f1, ?_⟩
  · unfold areaP
    rw [g1, Option.bind_some]; exact e1
  · have h2 := mul_le_mul_l hvb (Rat.le_of_lt hu)
    have k2 : ab (qv - v / 68719476736) ≤ 1 / 100000 := by grind
    have n4 := near_le k2
    rw [ab_le]; grind

theorem near_ok {b : Int} {area : Nat} {v c : Rat} (hv : F64 area v) (hc : ab (v - c) ≤ 1 / 1000) (hb : ab ((b : Rat) - 255 * mn (ab c)) ≤ 622 / 10) : nearB b area dFar = some true := by
  have hul := u64_small
  have hu := u64_pos
  have hmn := Rat.le_trans (mn_near v c) hc
  have m0 := mn_nn (ab_nonneg c)
  have m1 := mn_le (ab c)
  obtain ⟨m, e1, f1⟩ := max64_ok hv (neg64_ok hv)
  rw [show (if v < -v then -v else v) = ab v by unfold ab; grind] at f1
  obtain ⟨p, e2, f2⟩ := min64_ok f1 v_d1
  rw [show (if ab v < 1 then ab v else 1) = mn (ab v) by unfold mn; grind] at f2
  have t0 := mn_nn (ab_nonneg v)
  have t1 := mn_le (ab v)
  generalize mn (ab v) = t at *
  generalize mn (ab c) = u at *
  obtain ⟨q, qv, e3, f3, _, k3⟩ := mul64B (B := 255) v_d255 f2 (by rw [ab_le]; grind) (by decide +kernel)
  have nb := ab_le.1 hb
  have hbn : b.natAbs < 2 ^ 53 := by
    have := natAbs_small (z := b) (B := 400) (by push_cast; grind) (by push_cast; grind)
    omega
  have fb := of64_ok b hbn
  have n3 := near_le k3
  have nm := ab_le.1 hmn
  have hd : ab (qv - b) ≤ 63 := by rw [ab_le]; grind
  obtain ⟨d, dv, e4, f4, _, _, k4⟩ := sub64B f3 fb hd (by decide +kernel)
  obtain ⟨w, e5, f5⟩ := max64_ok f4 (neg64_ok f4)
  rw [show (if dv < -dv then -dv else dv) = ab dv by unfold ab; grind] at f5
  have hle : ab dv ≤ 64 := by
    have := near_le k4
    have := ab_le.1 hd
    rw [ab_le]; grind
  unfold nearB
  rw [e1, Option.bind_some, e2, Option.bind_some, e3, Option.bind_some, e4, Option.bind_some, e5, Option.bind_some, le64_eq f5 v_dFar]
  simp [hle]

theorem sumA_append (px py : Nat) (l m : List Edge) : sumA px py (l ++ m) = sumA px py l + sumA px py m := by
  induction l with
  | nil => show sumA px py m = 0 + sumA px py m; grind
  | cons e l ih => show aE px py e + sumA px py (l ++ m) = aE px py e + sumA px py l + sumA px py m; rw [ih]; grind
theorem sumA_range (px py : Nat) (g : Nat → Edge) (n : Nat) : sumA px py ((List.range n).map g) = sm (fun i => aE px py (g i)) n := by
  induction n with
  | zero => rfl
  | succ n ih =>
    rw [List.range_succ, List.map_append, sumA_append, ih]
    show _ + (aE px py (g n) + 0) = _ + _
    rw [show aE px py (g n) + 0 = aE px py (g n) by grind]
end Go.Proofs.Ytmgcbodlolnheaa
