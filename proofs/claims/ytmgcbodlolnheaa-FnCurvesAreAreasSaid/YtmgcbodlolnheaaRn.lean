/- A line drawn: what it adds to the sums. No program is in sight. -/
import Derived.Test.YtmgcbodlolnheaaRm
namespace Go.Proofs.Ytmgcbodlolnheaa
open Ieee

theorem cz_lip {j : Nat} {a b : Rat} (h : a ≤ b) : 0 ≤ cz j b - cz j a ∧ cz j b - cz j a ≤ b - a := by
  have hj : (0 : Rat) ≤ j := by exact_mod_cast Nat.zero_le j
  unfold cz; grind

/-- What a line from (a, c) to (b, d) adds to a pixel. -/
def addE (i j : Nat) (ax ay bx byy : Rat) : Rat := cz j byy - cz j ay - J (ax - i) (ay - j) (bx - i) (byy - j)

theorem addE_rev (i j : Nat) (ax ay bx byy : Rat) : addE i j bx byy ax ay = - addE i j ax ay bx byy := by
  unfold addE; rw [J_rev (ax - i)]; grind

def lineErr (R ax ay bx byy : Rat) (j : Nat) : Rat := 480 * u32 * R + 103 * u32 * ab (bx - ax) + 303 * u32 + dr * ab (cl (byy - j) - cl (ay - j))

theorem flat_small {i j : Nat} {ax ay bx byy : Rat} (h0 : ay ≤ byy) : ab (addE i j ax ay bx byy) ≤ 2 * (byy - ay) := by
  have h1 := cz_lip (j := j) h0
  obtain ⟨r, r0, r1, hJ⟩ := J_mean_between (x0 := ax - i) (y0 := ay - j) (x1 := bx - i) (y1 := byy - j) (m := if ax - i ≤ bx - i then ax - i else bx - i) (M := if ax - i ≤ bx - i then bx - i else ax - i) (by grind) (by grind) (by grind) (by grind)
  have hr0 := Rat.le_trans (cl_nn _) r0
  have hr1 := Rat.le_trans r1 (cl_le _)
  have hc := cl_mono (show ay - (j : Rat) ≤ byy - j by grind)
  have hl := cl_lip (show ay - (j : Rat) ≤ byy - j by grind)
  have p1 := mul_nn (show 0 ≤ cl (byy - j) - cl (ay - j) by grind) hr0
  have p2 := mul_le_mul_l hr1 (show 0 ≤ cl (byy - j) - cl (ay - j) by grind)
  unfold addE
  rw [hJ, ab_le]; grind

theorem slope_ok {g e' : Nat} {gv ev X Y M : Rat} (hg : F32 g gv) (he : F32 e' ev) (kg : ab (gv - X) ≤ u32 * ab X) (ke : ab (ev - Y) ≤ u32 * Y) (hY0 : 1 / 2000000 ≤ Y) (hY1 : Y ≤ 258) (hX : ab X ≤ 258) (hM : M * Y = X) (hX64 : Mult (-64) X) :
    ∃ m mv, div32 g e' = some m ∧ F32 m mv ∧ ab (mv - M) ≤ 41 / 10 * u32 * ab M + tiny32 ∧ Mult (-97) mv := by
  have hu := u32_pos
  have hu2 : u32 ≤ 1 / 16000000 := by decide +kernel
  have hM0 := ab_nonneg M
  have uY := mul_le_mul_r hu2 (show 0 ≤ Y by grind)
  have en := near_le ke
  have hev : 999 / 1000 * Y ≤ ev := by grind
  have hev0 : 0 < ev := by grind
  have hd := div_mul_self (a := gv) (b := ev) (by grind)
  have hXM : ab X = ab M * Y := by rw [← hM, ab_mul, ab_of_nonneg (show 0 ≤ Y by grind)]
  have hMY := mul_nn hM0 (show 0 ≤ Y by grind)
  have kM := mul_nn (Rat.le_of_lt hu) hM0
  -- the quotient
  have hz : ab (gv / ev - M) ≤ 201 / 100 * u32 * ab M := by
    have h1 : ab (gv - M * ev) ≤ 2 * (u32 * (ab M * Y)) := by
      have t1 := ab_mul_le (Rat.le_refl (a := ab M)) ke
      have t2 := ab_sub (gv - X) (M * (ev - Y))
      rw [show gv - X - M * (ev - Y) = gv - M * ev by grind] at t2
      rw [hXM] at kg
      grind
    have h2 : ab (gv / ev - M) * ev = ab (gv - M * ev) := by
      rw [← ab_of_nonneg (Rat.le_of_lt hev0), ← ab_mul, ab_of_nonneg (Rat.le_of_lt hev0)]; congr 1; grind
    refine le_of_mul_le hev0 ?_
    rw [h2]
    have h3 := mul_le_mul_l (show 9999999 / 10000000 * Y ≤ ev by grind) kM
    have h4 := mul_nn kM (show 0 ≤ Y by grind)
    clear hd h2 hM hXM hMY kg ke en uY hX
    generalize ab (gv - M * ev) = w at *
    generalize ab M = A at *
    grind
  generalize hzz : gv / ev = z at *
  have hzb : ab z ≤ (1 + 201 / 100 * u32) * ab M := by
    have := ab_add (z - M) M
    rw [show z - M + M = z by grind] at this
    grind
  have hMb : ab M ≤ 516000000 := by
    refine le_of_mul_le (c := Y) (by grind) ?_
    rw [← hXM]; grind
  have uM := mul_le_mul_r hu2 hM0
  obtain ⟨m, mv, e1, f1, k1⟩ := f32_div hg he (by grind) (by rw [hzz]; exact Rat.le_trans (show _ ≤ (520000000 : Rat) by grind) (le_huge (by decide +kernel)))
  rw [hzz] at k1
  have h41 : ab (mv - M) ≤ 41 / 10 * u32 * ab M + tiny32 := by
    have t1 := ab_add (mv - z) (z - M)
    rw [show mv - z + (z - M) = mv - M by grind] at t1
    have t2 := mul_le_mul_l hzb (Rat.le_of_lt hu)
    have t3 := mul_le_mul_l uM (Rat.le_of_lt hu)
    grind
  refine ⟨m, mv, e1, f1, h41, ?_⟩
  by_cases h0 : X = 0
  · -- the slope is nothing
    have hg0 : gv = 0 := by
      rw [h0, show ab 0 = 0 by decide +kernel] at kg
      have := near_le kg; grind
    have hz0 : z = 0 := by
      refine cancel_right hev0 ?_
      rw [hd, hg0]; grind
    rw [hz0, show ab 0 = 0 by decide +kernel] at k1
    obtain ⟨k, hk⟩ := f1.mult
    have := near_le k1
    have ht0 := tiny32_pos
    -- mv is a multiple of the least place and at most that: a word of a quotient of nothing; go by the spec again
    obtain ⟨r, c, e, g1, g2, g3, g4, _⟩ := div_spec ieee_eb32 hg he (by grind) (by rw [hzz, hz0, show ab 0 = 0 by decide +kernel]; have := huge2_lt32 (Rat.le_of_lt huge_pos); grind)
    rw [hzz, hz0, show ab 0 = 0 by decide +kernel] at g4
    have he0 : e = 0 := by have := near_le g4; grind
    rw [he0] at g3
    have c1 := g3.nonneg Rat.le_refl
    have c2 := g3.nonpos Rat.le_refl
    have hc0 : c = 0 := by grind
    have hr : r = m := by
      have e1' : single.div g e' = some m := e1
      rw [g1] at e1'
      exact Option.some.inj e1'
    have hmv : mv = 0 := by rw [← hc0]; rw [hr] at g2; exact f1.unique g2
    exact ⟨0, by rw [hmv, Rat.intCast_zero]; grind⟩
  · have h1 := hX64.least h0
    rw [hXM] at h1
    have e1 : p2 (-64) = 1024 * p2 (-74) := by
      rw [show (-64 : Int) = -74 + 10 by omega, p2_add]
      have : p2 10 = 1024 := by have := p2_nat 10; exact this.trans (by decide +kernel)
      rw [this]; grind
    have hP := p2_pos (-74)
    have h2 := mul_le_mul_l hY1 hM0
    have h3 : 2 * p2 (-74) ≤ ab M := by grind
    have h4 := ab_sub mv (mv - M)
    rw [show mv - (mv - M) = M by grind] at h4
    have ht : tiny32 ≤ p2 (-74) / 4 := by
      unfold tiny32
      have := p2_mono (show (-149 : Int) ≤ -76 by omega)
      have e2 : p2 (-74) = 4 * p2 (-76) := by rw [show (-74 : Int) = -76 + 1 + 1 by omega, p2_step, p2_step]; grind
      grind
    have := f1.grain (e := -74) (by grind)
    rw [fb32, show (-74 : Int) - ((23 : Nat) : Int) = -97 by omega] at this
    exact this

theorem nat_cast_le_of {a b : Nat} (h : a ≤ b) : (a : Rat) ≤ b := by exact_mod_cast h

/-- How many rows, as a number. -/
theorem rows_count {y0 yE : Int} {H : Nat} {a b R : Rat} (h0 : y0 ≤ yE) (yEH : yE ≤ H) (y0lt : a < y0 + 1) (yEb : (yE : Rat) - 1 < b) (hR : b - a + 2 ≤ R ∨ (H : Rat) ≤ R) (_hab : a < b) : (yE.toNat : Rat) - y0.toNat ≤ R := by
  have hn0 : (0 : Rat) ≤ y0.toNat := by exact_mod_cast Nat.zero_le _
  have hR0 : (0 : Rat) ≤ H := by exact_mod_cast Nat.zero_le _
  rcases hR with h | h
  · have h1 : (((yE.toNat : Nat) : Int) : Rat) - ((y0.toNat : Nat) : Int) ≤ yE - y0 := by
      have h2 : (yE.toNat : Int) - (y0.toNat : Int) ≤ yE - y0 := by omega
      have := Rat.intCast_le_intCast.2 h2
      rw [Rat.intCast_sub, Rat.intCast_sub] at this
      exact this
    rw [Rat.intCast_natCast, Rat.intCast_natCast] at h1
    grind
  · have h1 : yE.toNat ≤ H := by omega
    have := nat_cast_le_of h1
    grind

set_option maxHeartbeats 1000000 in
theorem line_down {W H dir : Nat} {ax ay bx bY : Nat} {axv a bxv b s C R : Rat} {bf : Nat → Nat} {B : Nat → Rat} (hW : 1 ≤ W) (hH : H ≤ 64) (hdir : F32 dir s) (hs : s = 1 ∨ s = -1)
    (hax : F32 ax axv) (hay : F32 ay a) (hbx : F32 bx bxv) (hbY : F32 bY b) (bax : ab axv ≤ 129) (bay : ab a ≤ 129) (bbx : ab bxv ≤ 129) (bby : ab b ≤ 129) (max : Mult (-64) axv) (mbx : Mult (-64) bxv)
    (hab : a ≤ b) (hC : C ≤ 95) (hbuf : Buf bf B) (hB : ∀ k, ab (B k) ≤ C) (hR : b - a + 2 ≤ R ∨ (H : Rat) ≤ R) (hR0 : 0 ≤ R) :
    ∃ b' B', lineDown W H dir ax ay bx bY bf = some b' ∧ Buf b' B' ∧ (∀ k, ab (B' k) ≤ C + 204 / 100) ∧
      ∀ i j : Nat, i < W → j < H → ab (acc B' (j * W + i) - (acc B (j * W + i) + s * addE i j axv a bxv b)) ≤ lineErr R axv a bxv b j := by
  have hu := u32_pos
  have hu2 : u32 ≤ 1 / 16000000 := by decide +kernel
  have hdr := dr_pos
  have bay' := ab_le.1 bay
  have bby' := ab_le.1 bby
  have bax' := ab_le.1 bax
  have bbx' := ab_le.1 bbx
  have hsab : ∀ x : Rat, ab (s * x) = ab x := by
    intro x; rw [ab_mul]
    rcases hs with rfl | rfl
    · rw [show ab 1 = 1 by decide +kernel]; grind
    · rw [show ab (-1) = 1 by decide +kernel]; grind
  obtain ⟨e, ev, e1, f1, r1, k1⟩ := f32_sub hbY hay (Rat.le_trans (show ab (b - a) ≤ 258 by rw [ab_le]; grind) (le_huge (by decide +kernel)))
  rw [ab_of_nonneg (x := b - a) (by grind)] at k1
  have E1 : sub32 bY ay = some e := e1
  have hle := le32_eq f1 v_wEps
  have n1 := near_le k1
  have ue := mul_le_mul_r hu2 (show 0 ≤ b - a by grind)
  have hEpsU : epsV ≤ 20 * u32 := by decide +kernel
  have hEpsL : 9 / 10000000 ≤ epsV := by decide +kernel
  have p0 : 0 ≤ 480 * u32 * R := mul_nn (by grind) hR0
  have p1 : 0 ≤ 103 * u32 * ab (bxv - axv) := mul_nn (by grind) (ab_nonneg _)
  unfold lineDown
  rw [E1, Option.bind_some, hle]
  by_cases hc : ev ≤ epsV
  · -- flat: left out
    refine ⟨bf, B, by simp only [hc, decide_true, if_true], hbuf, fun k => by have := hB k; grind, ?_⟩
    intro i j _ _
    rw [show acc B (j * W + i) - (acc B (j * W + i) + s * addE i j axv a bxv b) = -(s * addE i j axv a bxv b) by grind, ab_neg, hsab]
    have h1 := flat_small (i := i) (j := j) (ax := axv) (bx := bxv) hab
    have h2 : 0 ≤ dr * ab (cl (b - j) - cl (a - j)) := mul_nn (Rat.le_of_lt hdr) (ab_nonneg _)
    unfold lineErr
    grind
  · simp only [hc, decide_false, Bool.false_eq_true, if_false]
    have hlt : a < b := by
      by_cases h : a = b
      · subst h
        have : a - a = 0 := by grind
        rw [this] at k1
        have := near_le k1
        grind
      · grind
    have hY0 : 1 / 2000000 ≤ b - a := by grind
    obtain ⟨g, gv, e2, f2, r2, k2⟩ := f32_sub hbx hax (Rat.le_trans (show ab (bxv - axv) ≤ 258 by rw [ab_le]; grind) (le_huge (by decide +kernel)))
    have hdm := div_mul_self (a := bxv - axv) (b := b - a) (by grind)
    have bX : ab (bxv - axv) ≤ 258 := by rw [ab_le]; grind
    obtain ⟨m, mv, e3, f3, km, hmk⟩ := slope_ok f2 f1 k2 k1 hY0 (by grind) bX hdm (mbx.sub max)
    generalize (bxv - axv) / (b - a) = M at *
    have E2 : sub32 bx ax = some g := e2
    rw [E2, Option.bind_some, e3, Option.bind_some, floorI_ok hay (Rat.le_trans bay (by decide +kernel)), ceilI_ok hbY (Rat.le_trans bby (by decide +kernel)), Option.bind_some, Option.bind_some]
    obtain ⟨fl1, fl2⟩ := floor_bounds a
    obtain ⟨ce1, ce2⟩ := ceil_bounds b
    generalize a.floor = y0 at *
    generalize hyM : b.ceil = yM at *
    have hMQ : ab M * (b - a) ≤ 258 := by
      have : ab M * (b - a) = ab (bxv - axv) := by rw [← hdm, ab_mul, ab_of_nonneg (x := b - a) (by grind)]
      rw [this]; exact bX
    have hyMq : (yM : Rat) - y0 ≤ 600 := by grind
    have hlow : -1000 ≤ y0 := by
      have : ((-1000 : Int) : Rat) ≤ y0 := by rw [show ((-1000 : Int) : Rat) = -1000 by decide +kernel]; grind
      exact Rat.intCast_le_intCast.1 this
    by_cases hne : (if yM > H then (H : Int) else yM) < y0
    · -- below the picture
      have hz : ((if yM > H then (H : Int) else yM) - y0).toNat = 0 := by omega
      rw [hz]
      refine ⟨bf, B, rfl, hbuf, fun k => by have := hB k; grind, ?_⟩
      intro i j _ hj
      have hHy : (H : Int) + 1 ≤ y0 := by
        by_cases hyH : yM > H
        · rw [if_pos hyH] at hne; omega
        · rw [if_neg hyH] at hne
          have : (yM : Rat) + 1 ≤ y0 := by
            have h2 : ((yM + 1 : Int) : Rat) ≤ y0 := Rat.intCast_le_intCast.2 (by omega)
            rwa [int_succ] at h2
          grind
      have hHq := nat_le_int hHy
      have hjq := nat_cast_le_of (show j + 1 ≤ H by omega)
      have hjq' : (j : Rat) + 1 ≤ H := by push_cast at hjq; exact hjq
      have hp := pot_deep (M := M) (ax := axv) (ay := a) (h := b) (g := a) i j (by grind) (by grind)
      rw [pot_self, pot_end i j hdm] at hp
      have h0 : addE i j axv a bxv b = 0 := hp
      rw [h0, show acc B (j * W + i) - (acc B (j * W + i) + s * 0) = 0 by grind, show ab 0 = 0 by decide +kernel]
      have h2 : 0 ≤ dr * ab (cl (b - j) - cl (a - j)) := mul_nn (Rat.le_of_lt hdr) (ab_nonneg _)
      unfold lineErr
      grind
    · generalize hyE : (if yM > H then (H : Int) else yM) = yE at *
      have hyEM : yE ≤ yM := by split at hyE <;> omega
      have hyEH : yE ≤ H := by split at hyE <;> omega
      have hyEMq : (yE : Rat) ≤ yM := Rat.intCast_le_intCast.2 hyEM
      have hHq : (yE : Rat) ≤ H := by
        have h2 : (yE : Rat) ≤ ((H : Int) : Rat) := Rat.intCast_le_intCast.2 hyEH
        rwa [Rat.intCast_natCast] at h2
      have hH64 : (H : Rat) ≤ 64 := by have := nat_cast_le_of hH; exact this
      have P : EdgeP H ay bY dir m a b s mv M axv bxv y0 yE := ⟨hay, hbY, hdir, hs, f3, km, hmk, hlt, hdm, bax, bbx, hMQ, fl1, fl2, by grind, hyEH, by grind, hlow, hH⟩
      obtain ⟨c, hc2⟩ := Int.le.dest (show y0 ≤ yE by omega)
      have htn : (yE - y0).toNat = c := by omega
      have hg0 : hgt a b y0 = a := by unfold hgt topR; grind
      obtain ⟨b', B', g1, g2, g3, g4⟩ := rows_num hW P hC c y0 ax axv bf B hc2 (Int.le_refl _) hax (by
        rw [hg0, show axv - (axv + M * (a - a)) = 0 by grind, show ab 0 = 0 by decide +kernel]
        have := mul_nn (ab_nonneg M) (show 0 ≤ a - a by grind)
        grind) (fun _ => .inl max) hbuf (fun k => by
        have := hB k
        split
        · grind
        · split <;> grind)
      rw [htn]
      refine ⟨b', B', g1, g2, g3, ?_⟩
      intro i j hi hj
      have k := g4 i j hi hj
      have hjq := nat_cast_le_of (show j + 1 ≤ H by omega)
      have hjq' : (j : Rat) + 1 ≤ H := by push_cast at hjq; exact hjq
      have hge : pot M axv a i j (hgt a b yE) = pot M axv a i j b := by
        by_cases hyH : yM > H
        · rw [if_pos hyH] at hyE
          have hyEq : (yE : Rat) = H := by rw [← hyE, Rat.intCast_natCast]
          have h3 : (H : Rat) + 1 ≤ yM := nat_le_int (by omega)
          refine pot_deep i j ?_ ?_
          · unfold hgt topR; rw [hyEq]; grind
          · grind
        · rw [if_neg hyH] at hyE
          have : hgt a b yE = b := by unfold hgt topR; rw [← hyE]; grind
          rw [this]
      rw [hge, hg0, pot_self, pot_end i j hdm] at k
      have hrn := rows_count (R := R) (show y0 ≤ yE by omega) hyEH fl2 (by grind) hR hlt
      have hle1 := hgt_le (y := yE) hlt
      have hEr : rowsErr M a b yE y0 j ≤ lineErr R axv a bxv b j := by
        unfold rowsErr lineErr
        rw [hg0]
        have c1 := cl_mono (show hgt a b yE - (j : Rat) ≤ b - j by grind)
        have c2 := cl_mono (show a - (j : Rat) ≤ b - j by grind)
        rw [ab_of_nonneg (show 0 ≤ cl (b - j) - cl (a - j) by grind)]
        have m1 := mul_le_mul_l (show cl (hgt a b yE - j) - cl (a - j) ≤ cl (b - j) - cl (a - j) by grind) (Rat.le_of_lt hdr)
        have m2 := mul_le_mul_l hrn (show 0 ≤ 480 * u32 by grind)
        have m3 := mul_le_mul_l (show hgt a b yE - a ≤ b - a by grind) (ab_nonneg M)
        have m4 : ab M * (b - a) = ab (bxv - axv) := by rw [← hdm, ab_mul, ab_of_nonneg (x := b - a) (by grind)]
        rw [m4] at m3
        have m5 := mul_le_mul_l m3 (show 0 ≤ 103 * u32 by grind)
        split <;> grind
      have e0 : addE i j axv a bxv b = cz j b - cz j a - J (axv - i) (a - j) (bxv - i) (b - j) := rfl
      rw [e0]
      rw [show cz j b - cz j a - J (axv - ↑i) (a - ↑j) (bxv - ↑i) (b - ↑j) - 0 = cz j b - cz j a - J (axv - ↑i) (a - ↑j) (bxv - ↑i) (b - ↑j) by grind] at k
      exact Rat.le_trans k hEr

theorem line_to {W H : Nat} {ax ay bx bY : Nat} {axv a bxv b C R : Rat} {bf : Nat → Nat} {B : Nat → Rat} (hW : 1 ≤ W) (hH : H ≤ 64)
    (hax : F32 ax axv) (hay : F32 ay a) (hbx : F32 bx bxv) (hbY : F32 bY b) (bax : ab axv ≤ 129) (bay : ab a ≤ 129) (bbx : ab bxv ≤ 129) (bby : ab b ≤ 129) (max : Mult (-64) axv) (mbx : Mult (-64) bxv)
    (hC : C ≤ 95) (hbuf : Buf bf B) (hB : ∀ k, ab (B k) ≤ C) (hR : ab (b - a) + 2 ≤ R ∨ (H : Rat) ≤ R) (hR0 : 0 ≤ R) :
    ∃ b' B', lineTo W H ax ay bx bY bf = some b' ∧ Buf b' B' ∧ (∀ k, ab (B' k) ≤ C + 204 / 100) ∧
      ∀ i j : Nat, i < W → j < H → ab (acc B' (j * W + i) - (acc B (j * W + i) + addE i j axv a bxv b)) ≤ lineErr R axv a bxv b j := by
  unfold lineTo
  rw [gt32_eq hay hbY]
  by_cases h : b < a
  · simp only [h, decide_true, if_true]
    rw [ab_of_nonpos (show b - a ≤ 0 by grind)] at hR
    obtain ⟨b', B', g1, g2, g3, g4⟩ := line_down hW hH v_wm1 (.inr rfl) hbx hbY hax hay bbx bby bax bay mbx max (by grind) hC hbuf hB (R := R) (by rcases hR with h | h; exact .inl (by grind); exact .inr h) hR0
    refine ⟨b', B', g1, g2, g3, ?_⟩
    intro i j hi hj
    have k := g4 i j hi hj
    rw [addE_rev, show -1 * -addE i j axv a bxv b = addE i j axv a bxv b by grind] at k
    have e : lineErr R bxv b axv a j = lineErr R axv a bxv b j := by
      unfold lineErr
      rw [← ab_neg (axv - bxv), show -(axv - bxv) = bxv - axv by grind, ← ab_neg (cl (a - j) - cl (b - j)), show -(cl (a - j) - cl (b - j)) = cl (b - j) - cl (a - j) by grind]
    rw [e] at k
    exact k
  · simp only [h, decide_false, if_false, Bool.false_eq_true]
    rw [ab_of_nonneg (show 0 ≤ b - a by grind)] at hR
    obtain ⟨b', B', g1, g2, g3, g4⟩ := line_down hW hH v_w1 (.inl rfl) hax hay hbx hbY bax bay bbx bby max mbx (by grind) hC hbuf hB hR hR0
    refine ⟨b', B', g1, g2, g3, ?_⟩
    intro i j hi hj
    have k := g4 i j hi hj
    rw [Rat.one_mul] at k
    exact k
end Go.Proofs.Ytmgcbodlolnheaa
