/- An edge's row over several columns, in numbers: the bumps. No program is in sight. -/
import Derived.Test.YtmgcbodlolnheaaRe
namespace Go.Proofs.Ytmgcbodlolnheaa
open Ieee

theorem upto_append (th : Int) (L M : List Bp) : upto th (L ++ M) = upto th L + upto th M := by
  induction L with
  | nil => show upto th M = 0 + upto th M; grind
  | cons p L ih => show (if p.xi ≤ th then p.v else 0) + upto th (L ++ M) = (if p.xi ≤ th then p.v else 0) + upto th L + upto th M; rw [ih]; grind
theorem all_append (L M : List Bp) : all (L ++ M) = all L + all M := by
  induction L with
  | nil => show all M = 0 + all M; grind
  | cons p L ih => show p.v + all (L ++ M) = p.v + all L + all M; rw [ih]; grind
theorem mass_append (L M : List Bp) : mass (L ++ M) = mass L + mass M := by
  induction L with
  | nil => show mass M = 0 + mass M; grind
  | cons p L ih => show ab p.v + mass (L ++ M) = ab p.v + mass L + mass M; rw [ih]; grind

/-- The middle columns. -/
def mids (x : Int) (w : Nat) (v : Rat) (n : Nat) : List Bp := (List.range n).map fun (k : Nat) => ⟨x + (k : Int), w, v⟩
theorem mids_succ (x : Int) (w : Nat) (v : Rat) (n : Nat) : mids x w v (n + 1) = mids x w v n ++ [⟨x + n, w, v⟩] := by
  unfold mids; rw [List.range_succ, List.map_append]; rfl
theorem mids_first (x : Int) (w : Nat) (v : Rat) (n : Nat) : mids x w v (n + 1) = ⟨x, w, v⟩ :: mids (x + 1) w v n := by
  unfold mids
  rw [List.range_succ_eq_map, List.map_cons, List.map_map]
  congr 1
  · simp
  · refine List.map_congr_left fun k _ => ?_
    simp only [Function.comp_apply, Bp.mk.injEq, and_true]
    push_cast; omega
theorem mids_length (x : Int) (w : Nat) (v : Rat) (n : Nat) : (mids x w v n).length = n := by unfold mids; simp
theorem mids_all (x : Int) (w : Nat) (v : Rat) (n : Nat) : all (mids x w v n) = n * v := by
  induction n with
  | zero => show (0 : Rat) = _; push_cast; grind
  | succ n ih => rw [mids_succ, all_append, ih]; show _ + (v + 0) = _; push_cast; grind
theorem mids_mass (x : Int) (w : Nat) (v : Rat) (n : Nat) : mass (mids x w v n) = n * ab v := by
  induction n with
  | zero => show (0 : Rat) = _; push_cast; grind
  | succ n ih => rw [mids_succ, mass_append, ih]; show _ + (ab v + 0) = _; push_cast; grind
theorem mids_upto (x : Int) (w : Nat) (v : Rat) (th : Int) (n : Nat) :
    (th < x → upto th (mids x w v n) = 0) ∧ (∀ j : Nat, x + j = th + 1 → j ≤ n → upto th (mids x w v n) = j * v) ∧ (x + n ≤ th + 1 → upto th (mids x w v n) = n * v) := by
  induction n with
  | zero =>
    refine ⟨fun _ => rfl, ?_, fun _ => ?_⟩
    · intro j _ hj; obtain rfl : j = 0 := by omega
      show (0 : Rat) = _; push_cast; grind
    · show (0 : Rat) = _; push_cast; grind
  | succ n ih =>
    rw [mids_succ, upto_append]
    have e : ∀ t : Int, upto th [⟨t, w, v⟩] = (if t ≤ th then v else 0) := by
      intro t; show (if t ≤ th then v else 0) + 0 = _; grind
    rw [e]
    refine ⟨?_, ?_, ?_⟩
    · intro h; rw [ih.1 h, if_neg (by omega)]; grind
    · intro j hj hjn
      by_cases hl : j = n + 1
      · subst hl
        rw [ih.2.2 (by omega), if_pos (by omega)]; push_cast; grind
      · rw [ih.2.1 j hj (by omega), if_neg (by omega)]; grind
    · intro h; rw [ih.2.2 (by push_cast at h; omega), if_pos (by push_cast at h; omega)]; push_cast; grind

theorem mids_loop (n base W w : Nat) (v : Rat) : ∀ (c : Nat) (x : Int) (b : Nat → Nat), midLoop n base W w c x b = bumps n base W (mids x w v c) b := by
  intro c
  induction c with
  | zero => intro x b; rfl
  | succ c ih =>
    intro x b
    rw [mids_first]
    show (bump n base W x (some w) b).bind (fun b' => midLoop n base W w c (x + 1) b') = (bump n base W x (some w) b).bind (bumps n base W (mids (x + 1) w v c))
    congr 1
    funext b'
    exact ih (x + 1) b'

section
variable {d p q : Nat} {dv pv qv : Rat}
theorem mulSub2_ok (hd : F32 d dv) (hp : F32 p pv) (hq : F32 q qv) (bd : ab dv ≤ 101 / 100) (bp : ab pv ≤ 101 / 100) (bq : ab qv ≤ 101 / 100) :
    ∃ r rv, mulSub2 d p q = some r ∧ F32 r rv ∧ ab (rv - dv * (1 - pv - qv)) ≤ 10 * u32 := by
  have hu := u32_pos
  have hu2 : u32 ≤ 1 / 1000000 := by decide +kernel
  have ht := tiny_u
  have bp' := ab_le.1 bp
  have bq' := ab_le.1 bq
  obtain ⟨s, sv, e1, f1, _, k1⟩ := f32_sub v_w1 hp (Rat.le_trans (show ab (1 - pv) ≤ 3 by rw [ab_le]; grind) (le_huge (by decide +kernel)))
  have k1' : ab (sv - (1 - pv)) ≤ 201 / 100 * u32 := by
    have := mul_le_mul_l (show ab (1 - pv) ≤ 201 / 100 by rw [ab_le]; grind) (Rat.le_of_lt hu)
    grind
  have n1 := near_le k1'
  obtain ⟨t, tv, e2, f2, _, k2⟩ := f32_sub f1 hq (Rat.le_trans (show ab (sv - qv) ≤ 4 by rw [ab_le]; grind) (le_huge (by decide +kernel)))
  have k2' : ab (tv - (sv - qv)) ≤ 303 / 100 * u32 := by
    have := mul_le_mul_l (show ab (sv - qv) ≤ 303 / 100 by rw [ab_le]; grind) (Rat.le_of_lt hu)
    grind
  have n2 := near_le k2'
  have bt : ab tv ≤ 304 / 100 := by rw [ab_le]; grind
  have bdt := ab_mul_le bd bt
  obtain ⟨r, rv, e3, f3, _, k3⟩ := f32_mul hd f2 (Rat.le_trans bdt (le_huge (by decide +kernel)))
  have k3' : ab (rv - dv * tv) ≤ 32 / 10 * u32 := by
    have := mul_le_mul_l bdt (Rat.le_of_lt hu)
    grind
  have h4 : ab (tv - (1 - pv - qv)) ≤ 505 / 100 * u32 := by rw [ab_le]; grind
  have h5 := ab_mul_le bd h4
  refine ⟨r, rv, ?_, f3, ?_⟩
  · have E1 : sub32 w1 p = some s := e1
    have E2 : sub32 s q = some t := e2
    have E3 : mul32 d t = some r := e3
    unfold mulSub2
    simp only [E1, E2, E3, Option.bind_some]
  · have m1 := ab_le.1 k3'
    have m2 := ab_le.1 h5
    rw [ab_le]; grind
theorem mulSub_ok (hd : F32 d dv) (hp : F32 p pv) (hq : F32 q qv) (bd : ab dv ≤ 101 / 100) (bp : ab pv ≤ 101 / 100) (bq : ab qv ≤ 101 / 100) :
    ∃ r rv, mulSub d p q = some r ∧ F32 r rv ∧ ab (rv - dv * (pv - qv)) ≤ 10 * u32 := by
  have hu := u32_pos
  have hu2 : u32 ≤ 1 / 1000000 := by decide +kernel
  have ht := tiny_u
  have bp' := ab_le.1 bp
  have bq' := ab_le.1 bq
  obtain ⟨t, tv, e2, f2, _, k2⟩ := f32_sub hp hq (Rat.le_trans (show ab (pv - qv) ≤ 3 by rw [ab_le]; grind) (le_huge (by decide +kernel)))
  have k2' : ab (tv - (pv - qv)) ≤ 203 / 100 * u32 := by
    have := mul_le_mul_l (show ab (pv - qv) ≤ 203 / 100 by rw [ab_le]; grind) (Rat.le_of_lt hu)
    grind
  have n2 := near_le k2'
  have bt : ab tv ≤ 304 / 100 := by rw [ab_le]; grind
  have bdt := ab_mul_le bd bt
  obtain ⟨r, rv, e3, f3, _, k3⟩ := f32_mul hd f2 (Rat.le_trans bdt (le_huge (by decide +kernel)))
  have k3' : ab (rv - dv * tv) ≤ 32 / 10 * u32 := by
    have := mul_le_mul_l bdt (Rat.le_of_lt hu)
    grind
  have h5 := ab_mul_le bd k2'
  refine ⟨r, rv, ?_, f3, ?_⟩
  · have E2 : sub32 p q = some t := e2
    have E3 : mul32 d t = some r := e3
    unfold mulSub
    simp only [E2, E3, Option.bind_some]
  · have m1 := ab_le.1 k3'
    have m2 := ab_le.1 h5
    rw [ab_le]; grind
theorem mul_ok (hd : F32 d dv) (hp : F32 p pv) (bd : ab dv ≤ 101 / 100) (bp : ab pv ≤ 101 / 100) :
    ∃ r rv, mul32 d p = some r ∧ F32 r rv ∧ ab (rv - dv * pv) ≤ 2 * u32 := by
  have hu := u32_pos
  have ht := tiny_u
  have b := ab_mul_le bd bp
  obtain ⟨r, rv, e3, f3, _, k3⟩ := f32_mul hd hp (Rat.le_trans b (le_huge (by decide +kernel)))
  refine ⟨r, rv, e3, f3, ?_⟩
  have := mul_le_mul_l b (Rat.le_of_lt hu)
  grind
end

/-- The exact shares of the columns. -/
theorem far_mean {a c S : Rat} {z y : Int} (hz0 : (z : Rat) ≤ a) (hz1 : a < z + 1) (hy0 : (y : Rat) - 1 < c) (hy1 : c ≤ y) (hzy : z + 2 ≤ y) (hS : S * (c - a) = 1) (th : Int) :
    (th < z → mean (a - th) (c - th) = 1) ∧ (th = z → 1 - mean (a - th) (c - th) = S * ((1 - (a - z)) * (1 - (a - z))) / 2) ∧
    (z + 1 ≤ th → th + 2 ≤ y → 1 - mean (a - th) (c - th) = S * (th - a + 1 / 2)) ∧
    (th + 1 = y → mean (a - th) (c - th) = S * ((c - y + 1) * (c - y + 1)) / 2) ∧ (y ≤ th → mean (a - th) (c - th) = 0) := by
  have hzq : ((z + 2 : Int) : Rat) ≤ y := Rat.intCast_le_intCast.2 hzy
  rw [Rat.intCast_add] at hzq
  have hzq' : (z : Rat) + 2 ≤ y := hzq
  have hne : a ≠ c := by grind
  refine ⟨?_, ?_, ?_, ?_, ?_⟩
  · intro h
    have : ((th + 1 : Int) : Rat) ≤ z := Rat.intCast_le_intCast.2 (by omega)
    rw [Rat.intCast_add] at this
    have h2 : (th : Rat) + 1 ≤ z := this
    exact mean_high (by grind) (by grind)
  · intro h
    subst h
    have : mean (a - th) (c - th) = 1 - S * ((1 - (a - th)) * (1 - (a - th))) / 2 := by
      refine mean_of (by grind) ?_
      rw [bi_mid (x := a - th) (by grind) (by grind), bi_high (x := c - th) (by grind)]
      have e2 : (1 - S * ((1 - (a - th)) * (1 - (a - th))) / 2) * (c - th - (a - th)) = (c - a) - S * (c - a) * ((1 - (a - th)) * (1 - (a - th))) / 2 := by grind
      rw [e2, hS]; grind
    rw [this]; grind
  · intro h1 h2
    have a1 : ((z + 1 : Int) : Rat) ≤ th := Rat.intCast_le_intCast.2 h1
    have a2 : ((th + 2 : Int) : Rat) ≤ y := Rat.intCast_le_intCast.2 h2
    rw [Rat.intCast_add] at a1 a2
    have a1' : (z : Rat) + 1 ≤ th := a1
    have a2' : (th : Rat) + 2 ≤ y := a2
    have : mean (a - th) (c - th) = S * (c - th - 1 / 2) := by
      refine mean_of (by grind) ?_
      rw [bi_low (x := a - th) (by grind), bi_high (x := c - th) (by grind)]
      have e2 : S * (c - th - 1 / 2) * (c - th - (a - th)) = S * (c - a) * (c - th - 1 / 2) := by grind
      rw [e2, hS]; grind
    have e3 : S * (th - a + 1 / 2) = S * (c - a) - S * (c - th - 1 / 2) := by grind
    rw [this, e3, hS]
  · intro h
    have a1 : ((th + 1 : Int) : Rat) = y := by rw [h]
    rw [Rat.intCast_add] at a1
    have a1' : (th : Rat) + 1 = y := a1
    refine mean_of (by grind) ?_
    rw [bi_low (x := a - th) (by grind), bi_mid (x := c - th) (by grind) (by grind)]
    have e2 : S * ((c - y + 1) * (c - y + 1)) / 2 * (c - th - (a - th)) = S * (c - a) * ((c - y + 1) * (c - y + 1)) / 2 := by grind
    rw [e2, hS]; grind
  · intro h
    have a1 : (y : Rat) ≤ th := Rat.intCast_le_intCast.2 h
    exact mean_low (by grind) (by grind)
end Go.Proofs.Ytmgcbodlolnheaa
