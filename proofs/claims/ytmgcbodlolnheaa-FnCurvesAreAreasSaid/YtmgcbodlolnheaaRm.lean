/- The rows of an edge: what they add to the sums. No program is in sight. -/
import Derived.Test.YtmgcbodlolnheaaRl
namespace Go.Proofs.Ytmgcbodlolnheaa
open Ieee

/-- An edge that goes down, and its rows. -/
structure EdgeP (H : Nat) (ay bY dir m : Nat) (a b s mv M ax bx : Rat) (y0 yE : Int) : Prop where
  ha : F32 ay a
  hb : F32 bY b
  hdir : F32 dir s
  hs : s = 1 ∨ s = -1
  hm : F32 m mv
  km : ab (mv - M) ≤ 41 / 10 * u32 * ab M + tiny32
  hmk : Mult (-97) mv
  hab : a < b
  line : M * (b - a) = bx - ax
  bax : ab ax ≤ 129
  bbx : ab bx ≤ 129
  hQ : ab M * (b - a) ≤ 258
  y0le : (y0 : Rat) ≤ a
  y0lt : a < y0 + 1
  yEb : (yE : Rat) - 1 < b
  yEH : yE ≤ H
  yE0 : (yE : Rat) - y0 ≤ 194
  low : -1000 ≤ y0
  hH : H ≤ 64

/-- The error that is left from the row y on. -/
def rowsErr (M a b : Rat) (yE y : Int) (j : Nat) : Rat :=
  480 * u32 * ((yE.toNat : Rat) - y.toNat) + 103 * u32 * (ab M * (hgt a b yE - hgt a b y)) + (if y ≤ j then 303 * u32 else 0) + dr * (cl (hgt a b yE - j) - cl (hgt a b y - j))

theorem dr_pos : 0 < dr := by decide +kernel

theorem rowsErr_step {M a b T F : Rat} {yE y : Int} {j : Nat} (eT : hgt a b y = T) (eF : hgt a b (y + 1) = F) (h0 : (y : Rat) ≤ T) (hTF : T ≤ F) (hF : F ≤ y + 1) :
    rowsErr M a b yE (y + 1) j + (if 0 ≤ y then 480 * u32 + 103 * u32 * (ab M * (F - T)) + (if (j : Int) = y then 303 * u32 + dr * (F - T) else 0) else 0) ≤ rowsErr M a b yE y j := by
  have hu := u32_pos
  have hd := dr_pos
  have hM := ab_nonneg M
  unfold rowsErr
  rw [eT, eF]
  have hcl := cl_mono (show T - (j : Rat) ≤ F - j by grind)
  have m1 := mul_nn (Rat.le_of_lt hu) (mul_nn hM (show 0 ≤ F - T by grind))
  have m2 := mul_nn (Rat.le_of_lt hd) (show 0 ≤ cl (F - j) - cl (T - j) by grind)
  generalize cl (hgt a b yE - j) = cE
  generalize hgt a b yE = G
  by_cases hy : 0 ≤ y
  · rw [if_pos hy]
    have hn : ((y + 1).toNat : Rat) = y.toNat + 1 := by
      have : (y + 1).toNat = y.toNat + 1 := by omega
      rw [this]; push_cast; rfl
    rw [hn]
    by_cases hj : (j : Int) = y
    · have hjq : (j : Rat) = y := by rw [← hj, Rat.intCast_natCast]
      rw [if_pos hj, if_neg (by omega), if_pos (by omega)]
      rw [cl_mid (x := F - j) (by grind) (by grind), cl_mid (x := T - j) (by grind) (by grind)] at *
      grind
    · rw [if_neg hj]
      by_cases h2 : y + 1 ≤ (j : Int)
      · rw [if_pos h2, if_pos (by omega)]; grind
      · rw [if_neg h2]
        split <;> grind
  · have hn : (y + 1).toNat = y.toNat := by omega
    rw [if_neg hy, hn]
    by_cases h2 : y + 1 ≤ (j : Int)
    · rw [if_pos h2, if_pos (by omega)]; grind
    · rw [if_neg h2]
      split <;> grind

theorem rowsErr_end (M a b : Rat) (yE : Int) (j : Nat) : 0 ≤ rowsErr M a b yE yE j := by
  have hu := u32_pos
  unfold rowsErr
  split <;> grind

set_option maxHeartbeats 2000000 in
theorem rows_num {W H ay bY dir m : Nat} {a b s mv M ax bx C : Rat} {y0 yE : Int} (hW : 1 ≤ W) (P : EdgeP H ay bY dir m a b s mv M ax bx y0 yE) (hC : C ≤ 95) :
    ∀ (c : Nat) (y : Int) (x : Nat) (xv : Rat) (bf : Nat → Nat) (B : Nat → Rat), y + c = yE → y0 ≤ y → F32 x xv →
      ab (xv - (ax + M * (hgt a b y - a))) ≤ 7 * u32 * (ab M * (hgt a b y - a)) + 131 * u32 * (y - y0) →
      (c ≠ 0 → Mult (-64) xv ∨ (a ≤ y ∧ Mult (-97) xv) ∨ 0 ≤ mv * xv) → Buf bf B →
      (∀ k, ab (B k) ≤ C + (if k < y.toNat * W then 204 / 100 else if k = y.toNat * W then 102 / 100 else 0)) →
      ∃ b' B', rows (W * H) W ay bY dir m c y x bf = some b' ∧ Buf b' B' ∧ (∀ k, ab (B' k) ≤ C + 204 / 100) ∧
        ∀ i j : Nat, i < W → j < H → ab (acc B' (j * W + i) - (acc B (j * W + i) + s * (pot M ax a i j (hgt a b yE) - pot M ax a i j (hgt a b y)))) ≤ rowsErr M a b yE y j := by
  intro c
  have hu := u32_pos
  have hu2 : u32 ≤ 1 / 16000000 := by decide +kernel
  have hdr : dr ≤ 2 / 1000 := by decide +kernel
  induction c with
  | zero =>
    intro y x xv bf B hy _ _ _ _ hbuf hB
    obtain rfl : y = yE := by omega
    refine ⟨bf, B, rfl, hbuf, ?_, ?_⟩
    · intro k
      have := hB k
      split at this
      · grind
      · split at this <;> grind
    · intro i j _ _
      have := rowsErr_end M a b y j
      rw [show acc B (j * W + i) - (acc B (j * W + i) + s * (pot M ax a i j (hgt a b y) - pot M ax a i j (hgt a b y))) = 0 by grind, show ab 0 = 0 by decide +kernel]
      exact this
  | succ c ih =>
    intro y x xv bf B hy h0 hx hδ hI hbuf hB
    have hyE : y + 1 ≤ yE := by omega
    have hyq : (y : Rat) + 1 ≤ yE := by have : ((y + 1 : Int) : Rat) ≤ yE := Rat.intCast_le_intCast.2 hyE; rwa [int_succ] at this
    have hy0q : (y0 : Rat) ≤ y := Rat.intCast_le_intCast.2 h0
    have yEb := P.yEb
    have y0lt := P.y0lt
    have y0le := P.y0le
    have hab := P.hab
    have hQ := P.hQ
    have yE0 := P.yE0
    have low := P.low
    have yEH := P.yEH
    have hH := P.hH
    have hyb : (y : Rat) < b := by grind
    have hay : a < y + 1 := by grind
    have eT := hgt_top hab hyb
    have eF := hgt_foot (b := b) hay
    have hmono := hgt_mono (a := a) (b := b) (y := y)
    have hle0 := hgt_le (y := y) hab
    have hle1 := hgt_le (y := y + 1) hab
    have hTy : (y : Rat) ≤ topR a y := by unfold topR; grind
    have hFy : footR b y ≤ y + 1 := by unfold footR; grind
    have hTF : topR a y ≤ footR b y := by rw [← eT, ← eF]; exact hmono
    obtain ⟨dyw, dyv, e1, f1, dy0, kd, dy1⟩ := dy_ok (y := y) P.ha P.hb (by omega) hTF (by grind)
    rw [eT] at hδ hmono hle0
    rw [eF] at hmono hle1
    have hM0 := ab_nonneg M
    have hLT := line_between P.line hle0.1 hle0.2 hab P.bax P.bbx
    have hLF := line_between P.line hle1.1 hle1.2 hab P.bax P.bbx
    have q1 := mul_le_mul_l (show topR a y - a ≤ b - a by grind) hM0
    have q2 := mul_nn hM0 (show 0 ≤ topR a y - a by grind)
    have q3 := mul_le_mul_l (show footR b y - topR a y ≤ b - a by grind) hM0
    have q4 := mul_nn hM0 (show 0 ≤ footR b y - topR a y by grind)
    have q5 := mul_le_mul_l (show footR b y - a ≤ b - a by grind) hM0
    have q6 := mul_nn hM0 (show 0 ≤ footR b y - a by grind)
    have hδd : ab (xv - (ax + M * (topR a y - a))) ≤ dr := by
      have t1 := mul_le_mul_l (show ab M * (topR a y - a) ≤ 258 by grind) (Rat.le_of_lt hu)
      have t2 := mul_le_mul_l (show (y : Rat) - y0 ≤ 194 by grind) (Rat.le_of_lt hu)
      unfold dr
      clear hLT hLF ih hB hbuf hI kd
      grind
    have hX : ab (xv + M * (footR b y - topR a y)) ≤ 1295 / 10 := by
      have := ab_add (xv - (ax + M * (topR a y - a))) (ax + M * (footR b y - a))
      rw [show xv - (ax + M * (topR a y - a)) + (ax + M * (footR b y - a)) = xv + M * (footR b y - topR a y) by grind] at this
      clear ih hB hbuf hI kd hδ
      grind
    obtain ⟨p, pv, xN, xNv, e2, r1, f2, e3, f3, r2, k3⟩ := x_step hx f1 P.hm (by grind) (by grind) kd P.km (by grind) hX
    have hδN : ab (xNv - (ax + M * (footR b y - a))) ≤ 7 * u32 * (ab M * (footR b y - a)) + 131 * u32 * ((y + 1 : Int) - y0) := by
      have := ab_add (xNv - (xv + M * (footR b y - topR a y))) (xv - (ax + M * (topR a y - a)))
      rw [show xNv - (xv + M * (footR b y - topR a y)) + (xv - (ax + M * (topR a y - a))) = xNv - (ax + M * (footR b y - a)) by grind] at this
      rw [int_succ]
      clear ih hB hbuf hI kd hX hLT hLF hδd
      grind
    have hδNd : ab (xNv - (ax + M * (footR b y - a))) ≤ dr := by
      have t1 := mul_le_mul_l (show ab M * (footR b y - a) ≤ 258 by grind) (Rat.le_of_lt hu)
      have t2 := mul_le_mul_l (show (y : Rat) + 1 - y0 ≤ 194 by grind) (Rat.le_of_lt hu)
      rw [int_succ] at hδN
      unfold dr
      clear hLT hLF ih hB hbuf hI kd hX hδ
      grind
    have hI' : Mult (-64) xv ∨ (a ≤ y ∧ Mult (-97) xv) ∨ 0 ≤ mv * xv := hI (by omega)
    have hgap := gap_ok (mv := mv) (by
      rcases hI' with h | ⟨_, h⟩ | h
      · exact .inl (h.down (by omega))
      · exact .inl h
      · exact .inr h) dy0 r1 r2
    have hIN : c ≠ 0 → Mult (-64) xNv ∨ (a ≤ (y + 1 : Int) ∧ Mult (-97) xNv) ∨ 0 ≤ mv * xNv := by
      intro hc
      have hlt : (y : Rat) + 1 < b := by
        have h2 : ((y + 2 : Int) : Rat) ≤ yE := Rat.intCast_le_intCast.2 (by omega)
        rw [Rat.intCast_add] at h2
        have h3 : (y : Rat) + 2 ≤ yE := h2
        grind
      rcases inv_next hx f2 f3 dy0 r1 r2 P.hmk (by
        rcases hI' with h | ⟨ha, h⟩ | h
        · exact .inl h
        · refine .inr (.inl ⟨dy1 ?_, h⟩)
          unfold footR topR
          rw [if_pos hlt]; grind
        · exact .inr (.inr h)) with h | h
      · right; left; exact ⟨by rw [int_succ]; grind, h⟩
      · right; right; exact h
    have E1 : rowDy ay bY y = some dyw := e1
    have E2 : mul32 dyw m = some p := e2
    have E3 : add32 x p = some xN := e3
    have hstep := fun j => rowsErr_step (M := M) (yE := yE) (j := j) eT eF hTy hTF hFy
    rw [← eF] at hδN
    by_cases hy0 : y < 0
    · -- above the picture
      have ht : (y + 1).toNat = y.toNat := by omega
      obtain ⟨b', B', g1, g2, g3, g4⟩ := ih (y + 1) xN xNv bf B (by omega) (by omega) f3 hδN hIN hbuf (by rw [ht]; exact hB)
      refine ⟨b', B', ?_, g2, g3, ?_⟩
      · unfold rows
        simp only [E1, E2, E3, Option.bind_some, if_pos hy0]
        exact g1
      · intro i j hi hj
        have k := g4 i j hi hj
        have hs := hstep j
        rw [if_neg (by omega)] at hs
        have hp := pot_above (M := M) (ax := ax) (ay := a) (T := topR a y) (B := footR b y) (i := i) (j := j) hFy hTF hy0
        rw [eF] at k
        rw [eT]
        rw [show pot M ax a i j (footR b y) = pot M ax a i j (topR a y) by grind] at k
        grind
    · obtain ⟨n, rfl⟩ := Int.eq_ofNat_of_zero_le (show 0 ≤ y by omega)
      have ht : ((n : Int) + 1).toNat = n + 1 := by omega
      have hnq : ((n : Int) : Rat) = n := Rat.intCast_natCast n
      obtain ⟨dw, dv, e4, f4, kd4, bd4⟩ := dir_ok f1 P.hdir P.hs (by grind) (by grind) kd
      obtain ⟨L, hR, hw⟩ := row_write f4 hx f3 bd4 (by
          have := ab_add (xv - (ax + M * (topR a n - a))) (ax + M * (topR a n - a))
          rw [show xv - (ax + M * (topR a n - a)) + (ax + M * (topR a n - a)) = xv by grind] at this
          clear hstep hB hbuf ih hIN hI hI' hgap
          grind) (by
          have := ab_add (xNv - (ax + M * (footR b n - a))) (ax + M * (footR b n - a))
          rw [show xNv - (ax + M * (footR b n - a)) + (ax + M * (footR b n - a)) = xNv by grind] at this
          clear hstep hB hbuf ih hIN hI hI' hgap
          grind) hgap
      have hQd : ab (xNv - xv) ≤ ab M * (footR b n - topR a n) + 1 / 100 := by
        have t0 := ab_add (xNv - (xv + M * (footR b n - topR a n))) (M * (footR b n - topR a n))
        rw [show xNv - (xv + M * (footR b n - topR a n)) + M * (footR b n - topR a n) = xNv - xv by grind, ab_mul M, ab_of_nonneg (show 0 ≤ footR b n - topR a n by grind)] at t0
        have t1 := mul_le_mul_l (show ab M * (footR b n - topR a n) ≤ 258 by grind) (Rat.le_of_lt hu)
        clear hstep hB hbuf ih hIN hI hI' hgap hLT hLF hX hδ hδN hδd hδNd hR
        grind
      obtain ⟨b1, B1, g1, g2, g3, g4⟩ := row_done (W := W) (H := H) (C := C + 102 / 100) (Q := ab M * (footR b n - topR a n)) hbuf hR P.hs (by rw [← hnq]; exact hTy) hTF (by rw [← hnq]; exact hFy) bd4 kd4 hQd (by grind) hδd hδNd (by grind) (fun k hk => by
        have := hB k
        rw [if_neg (by simp only [Int.toNat_natCast]; omega)] at this
        split at this <;> grind)
      obtain ⟨b', B', g5, g6, g7, g8⟩ := ih ((n : Int) + 1) xN xNv b1 B1 (by omega) (by omega) f3 hδN hIN g2 (by
        intro k
        have h1 := g3 k
        have h2 := hB k
        rw [ht]
        have e : (n + 1) * W = n * W + W := by rw [Nat.add_mul]; omega
        rw [e]
        rw [Int.toNat_natCast] at h2
        by_cases c1 : k < n * W
        · rw [if_pos c1] at h2
          rw [if_neg (by omega)] at h1
          rw [if_pos (by omega)]; grind
        · rw [if_neg c1] at h2
          by_cases c2 : k < n * W + W
          · rw [if_pos (by omega)] at h1
            rw [if_pos c2]
            split at h2 <;> grind
          · by_cases c3 : k = n * W + W
            · rw [if_pos (by omega)] at h1
              rw [if_neg c2, if_pos c3]
              rw [if_neg (by omega)] at h2
              grind
            · rw [if_neg (by omega)] at h1
              rw [if_neg c2, if_neg c3]
              rw [if_neg (by omega)] at h2
              grind)
      refine ⟨b', B', ?_, g6, g7, ?_⟩
      · unfold rows
        have E4 : mul32 dyw dir = some dw := e4
        simp only [E1, E2, E3, E4, Option.bind_some, if_neg hy0, Int.toNat_natCast]
        rw [hw, g1, Option.bind_some]
        exact g5
      · intro i j hi hj
        have k1 := ab_le.1 (g4 i j hi hj)
        have k2 := ab_le.1 (g8 i j hi hj)
        have hs := hstep j
        rw [if_pos (by omega)] at hs
        rw [eF] at k2
        rw [eT, ab_le]
        have hif : (if ((j : Nat) : Int) = ((n : Nat) : Int) then 303 * u32 + dr * (footR b n - topR a n) else 0) = (if j = n then 303 * u32 + dr * (footR b n - topR a n) else 0) := by
          by_cases h : j = n
          · rw [if_pos h, if_pos (by omega)]
          · rw [if_neg h, if_neg (by omega)]
        rw [hif] at hs
        generalize (if j = n then 303 * u32 + dr * (footR b n - topR a n) else 0) = ee at *
        clear hstep hB hbuf ih hIN hI hI' hgap hLT hLF hX hδ hδN hδd hδNd hR g3 g7 g8 g4 kd kd4 k3 hQd hif
        generalize pot M ax a i j (hgt a b yE) = p3 at *
        generalize pot M ax a i j (footR b n) = p2 at *
        generalize pot M ax a i j (topR a n) = p1 at *
        grind
end Go.Proofs.Ytmgcbodlolnheaa
