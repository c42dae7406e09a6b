/- The sums made bytes. No program is in sight. -/
import Derived.Test.YtmgcbodlolnheaaRs
namespace Go.Proofs.Ytmgcbodlolnheaa
open Ieee

theorem xor_top (w k : Nat) : (w ^^^ 2 ^ k) % 2 ^ k = w % 2 ^ k ∧ ((w ^^^ 2 ^ k) / 2 ^ k % 2 == 1) = !(w / 2 ^ k % 2 == 1) := by
  have hp := Nat.two_pow_pos k
  constructor
  · rw [Nat.xor_mod_two_pow, Nat.mod_self, Nat.xor_zero]
  · have e1 : (w ^^^ 2 ^ k) / 2 ^ k = (w / 2 ^ k) ^^^ 1 := by
      rw [Nat.xor_div_two_pow, Nat.div_self hp]
    rw [e1]
    have e2 : (w / 2 ^ k ^^^ 1) % 2 = (w / 2 ^ k % 2) ^^^ 1 := by
      have := Nat.xor_mod_two_pow (a := w / 2 ^ k) (b := 1) (n := 1)
      simpa using this
    rw [e2]
    have h2 : w / 2 ^ k % 2 < 2 := Nat.mod_lt _ (by omega)
    generalize w / 2 ^ k % 2 = r at h2
    have : r = 0 ∨ r = 1 := by omega
    rcases this with rfl | rfl <;> decide

theorem neg_read (f : Format) (w : Nat) (s : Bool) (m : Nat) (e : Int) (h : f.read w = .number s m e) : f.read (w ^^^ f.signWeight) = .number (!s) m e := by
  obtain ⟨h1, h2⟩ := xor_top w (f.exponentBits + f.fractionBits)
  have hsw : f.signWeight = 2 ^ (f.exponentBits + f.fractionBits) := rfl
  rw [← hsw] at h1 h2
  unfold Format.read at h ⊢
  dsimp only at h ⊢
  rw [h1, h2]
  split at h
  · cases h; rename_i hr; simp [hr]
  · rename_i hr
    rw [if_neg hr]
    split at h
    · cases h; rename_i hr2; rw [if_pos hr2]
    · split at h <;> cases h

theorem neg_ok {f : Format} {w : Nat} {v : Rat} (h : Fv f w v) : Fv f (w ^^^ f.signWeight) (-v) := by
  obtain ⟨s, m, e, h1, rfl⟩ := h
  refine ⟨!s, m, e, neg_read f w s m e h1, ?_⟩
  unfold num
  cases s <;> simp <;> grind

theorem neg32_ok {w : Nat} {v : Rat} (h : F32 w v) : F32 (neg32 w) (-v) := neg_ok h
theorem neg64_ok {w : Nat} {v : Rat} (h : F64 w v) : F64 (neg64 w) (-v) := neg_ok h

/-- A number kept at 1. -/
def mn (x : Rat) : Rat := if x ≤ 1 then x else 1
theorem mn_le (x : Rat) : mn x ≤ 1 := by unfold mn; grind
theorem mn_nn {x : Rat} (h : 0 ≤ x) : 0 ≤ mn x := by unfold mn; grind
theorem mn_near (x y : Rat) : ab (mn (ab x) - mn (ab y)) ≤ ab (x - y) := by unfold mn ab; grind

theorem byteOf_ok {a : Nat} {v : Rat} (ha : F32 a v) : ∃ u : Int, byteOf a = some u ∧ 0 ≤ u ∧ u ≤ 255 ∧ 256 * mn (ab v) - 1 - 1 / 10000 ≤ u ∧ (u : Rat) ≤ 256 * mn (ab v) + 1 / 10000 := by
  have hu := u32_pos
  have hul : u32 ≤ 1 / 16000000 := by decide +kernel
  have ht0 := tiny32_pos
  have htl : tiny32 ≤ 1 / 1000000000000 := Rat.le_trans tiny32_le (by decide +kernel)
  obtain ⟨p, hp, fp⟩ : ∃ p, (if lt32 a 0 then neg32 a else a) = p ∧ F32 p (ab v) := by
    refine ⟨_, rfl, ?_⟩
    rw [lt32_eq ha v_zero]
    by_cases h : v < 0
    · simp only [h, decide_true, if_true]
      rw [ab_of_nonpos (by grind)]; exact neg32_ok ha
    · simp only [h, decide_false, Bool.false_eq_true, if_false]
      rw [ab_of_nonneg (by grind)]; exact ha
  obtain ⟨q, hq, fq⟩ : ∃ q, (if gt32 p w1 then w1 else p) = q ∧ F32 q (mn (ab v)) := by
    refine ⟨_, rfl, ?_⟩
    rw [gt32_eq fp v_w1]
    unfold mn
    by_cases h : 1 < ab v
    · simp only [h, decide_true, if_true]
      rw [if_neg (by grind)]; exact v_w1
    · simp only [h, decide_false, Bool.false_eq_true, if_false]
      rw [if_pos (by grind)]; exact fp
  have t0 := mn_nn (ab_nonneg v)
  have t1 := mn_le (ab v)
  generalize mn (ab v) = t at *
  have h256 : v256 = 16777215 / 65536 := rfl
  have b : ab (v256 * t) ≤ 256 := by rw [ab_le, h256]; grind
  obtain ⟨e, ev, e1, f1, r1, k1⟩ := f32_mul v_w256 fq (Rat.le_trans b (le_huge (by decide +kernel)))
  rw [ab_of_nonneg (x := v256 * t) (by rw [h256]; grind)] at k1
  have e0 : 0 ≤ ev := r1.nonneg (by rw [h256]; grind)
  have hev : ev < 256 := by
    have n1 := (near_le k1).2
    have hu2 : u32 = 1 / 16777216 := rfl
    have htt := tiny32_le
    rw [hu2, h256] at n1
    grind
  have n1 := near_le k1
  have ku : u32 * (v256 * t) ≤ 256 * u32 := by
    have := mul_le_mul_l (show v256 * t ≤ 256 by have := ab_le.1 b; grind) (Rat.le_of_lt hu)
    grind
  obtain ⟨fl1, fl2⟩ := floor_bounds ev
  have hk0 : 0 ≤ ev.floor := by
    have : ((-1 : Int) : Rat) < ev.floor := by rw [show ((-1 : Int) : Rat) = -1 by decide +kernel]; grind
    have := Rat.intCast_lt_intCast.1 this
    omega
  have hk1 : ev.floor ≤ 255 := by
    have : (ev.floor : Rat) < ((256 : Int) : Rat) := by rw [show ((256 : Int) : Rat) = 256 by decide +kernel]; grind
    have := Rat.intCast_lt_intCast.1 this
    omega
  refine ⟨ev.floor, ?_, hk0, hk1, ?_, ?_⟩
  · obtain ⟨s, m, ee, hr, hv⟩ := f1
    have hti : (Datum.number s m ee).toInt .zero = some ev.floor := by
      have := toInt_zero (s := s) (m := m) (e := ee) (by rw [hv]; exact e0)
      rw [hv] at this; exact this
    have hfi : floatToIntVal .f32 e .u8 = some ev.floor := by
      unfold floatToIntVal
      have : FloatKind.f32.decode e = .number s m ee := hr
      rw [this, hti]
      have e1 : IntKind.u8.min = 0 := by decide
      have e2 : IntKind.u8.max = 255 := by decide
      simp only
      rw [if_pos (by omega)]
    have E1 : mul32 w256 q = some e := e1
    unfold byteOf
    simp only [hp, hq, E1, Option.bind_some]
    exact hfi
  · rw [h256] at n1 ku; grind
  · rw [h256] at n1 ku; grind

/-- What a byte is of a sum. -/
def ByteOk (u : Int) (v : Rat) : Prop := 256 * mn (ab v) - 1 - 1 / 10000 ≤ u ∧ (u : Rat) ≤ 256 * mn (ab v) + 1 / 10000

theorem accum_ok {b : Nat → Nat} {B : Nat → Rat} (hbuf : Buf b B) : ∀ (c k a : Nat) (av : Rat), F32 a av → k + c ≤ 4096 → ab (av - sm B k) ≤ k * (4 * u32) → (∀ q, q < k + c → ab (acc B q) ≤ 35 / 10) →
    ∃ l, accum b c k a = some l ∧ ∀ q, q < c → ∃ v, ab (v - acc B (k + q)) ≤ 1 / 1000 ∧ ByteOk (l.getD q 0) v := by
  have hu := u32_pos
  have hul : u32 ≤ 1 / 16700000 := by decide +kernel
  intro c
  induction c with
  | zero => intro k a av _ _ _ _; exact ⟨[], rfl, fun q hq => absurd hq (by omega)⟩
  | succ c ih =>
    intro k a av fa hk hav hB
    have hkq : (k : Rat) + 1 ≤ 4096 := by
      have := nat_cast_le_of (show k + 1 ≤ 4096 by omega)
      push_cast at this; exact this
    have hk0 : (0 : Rat) ≤ k := by exact_mod_cast Nat.zero_le k
    have e : acc B k = sm B k + B k := rfl
    have hb := hB k (by omega)
    have ku := mul_le_mul_r hkq (Rat.le_of_lt hu)
    have hs : ab (av + B k) ≤ 36 / 10 := by
      have := ab_add (av - sm B k) (acc B k)
      rw [show av - sm B k + acc B k = av + B k by rw [e]; grind] at this
      grind
    obtain ⟨r, c', e1, f1, _, k1⟩ := addB fa (hbuf k) hs (by decide +kernel)
    have hav' : ab (c' - acc B k) ≤ (k + 1 : Nat) * (4 * u32) := by
      have := ab_add (c' - (av + B k)) (av - sm B k)
      rw [show c' - (av + B k) + (av - sm B k) = c' - acc B k by rw [e]; grind] at this
      push_cast; grind
    obtain ⟨u, hu1, _, _, hu2, hu3⟩ := byteOf_ok f1
    obtain ⟨l, hl1, hl2⟩ := ih (k + 1) r c' f1 (by omega) hav' (fun q hq => hB q (by omega))
    refine ⟨u :: l, ?_, ?_⟩
    · unfold accum
      rw [e1, Option.bind_some, hu1, Option.bind_some, hl1, Option.bind_some]
    · intro q hq
      cases q with
      | zero =>
        refine ⟨c', ?_, hu2, hu3⟩
        rw [Nat.add_zero]
        push_cast at hav'
        grind
      | succ q =>
        obtain ⟨v, hv1, hv2⟩ := hl2 q (by omega)
        refine ⟨v, ?_, ?_⟩
        · rw [show k + (q + 1) = k + 1 + q by omega]; exact hv1
        · rw [List.getD_cons_succ]; exact hv2

/-- The mask. -/
theorem mask_ok {W H : Nat} {b : Nat → Nat} {B : Nat → Rat} {ax bx cx ay byy cy : Rat} (hW : W ≤ 64) (hH : H ≤ 64) (hbuf : Buf b B)
    (hs : ∀ i j : Nat, i < W → j < H → ab (acc B (j * W + i) + closed ax bx cx ay byy cy i j) ≤ 2388 / 10000) :
    ∃ l, accum b (W * H) 0 0 = some l ∧ ∀ i j : Nat, i < W → j < H → ab (l.getD (j * W + i) 0 - 255 * mn (ab (closed ax bx cx ay byy cy i j))) ≤ 622 / 10 := by
  have hWH : W * H ≤ 64 * 64 := Nat.mul_le_mul hW hH
  obtain ⟨l, h1, h2⟩ := accum_ok hbuf (W * H) 0 0 0 v_zero (by omega) (by
    rw [show sm B 0 = 0 from rfl, Rat.sub_self, show ab 0 = 0 by decide +kernel, show ((0 : Nat) : Rat) = 0 from rfl]; grind) (by
    intro q hq
    have hW0 : 0 < W := by
      rcases Nat.eq_zero_or_pos W with h | h
      · subst h; omega
      · exact h
    have hq' : q < W * H := by omega
    have e := Nat.div_add_mod q W
    have hi := Nat.mod_lt q hW0
    have hj : q / W < H := by
      rw [Nat.div_lt_iff_lt_mul hW0, Nat.mul_comm]; exact hq'
    have k1 := hs (q % W) (q / W) hi hj
    rw [show q / W * W + q % W = q by rw [Nat.mul_comm]; exact e] at k1
    have k2 := closed_abs ax bx cx ay byy cy (q % W) (q / W)
    have := ab_sub (acc B q + closed ax bx cx ay byy cy (q % W) (q / W)) (closed ax bx cx ay byy cy (q % W) (q / W))
    rw [show acc B q + closed ax bx cx ay byy cy (q % W) (q / W) - closed ax bx cx ay byy cy (q % W) (q / W) = acc B q by grind] at this
    grind)
  refine ⟨l, h1, ?_⟩
  intro i j hi hj
  have hlt : j * W + i < W * H := by
    have h1 : (j + 1) * W ≤ H * W := Nat.mul_le_mul_right W hj
    rw [Nat.add_mul, Nat.mul_comm H W] at h1
    omega
  obtain ⟨v, hv1, hv2, hv3⟩ := h2 (j * W + i) hlt
  rw [Nat.zero_add] at hv1
  have k := hs i j hi hj
  have hd : ab (v - -closed ax bx cx ay byy cy i j) ≤ 2399 / 10000 := by
    have := ab_add (v - acc B (j * W + i)) (acc B (j * W + i) + closed ax bx cx ay byy cy i j)
    rw [show v - acc B (j * W + i) + (acc B (j * W + i) + closed ax bx cx ay byy cy i j) = v - -closed ax bx cx ay byy cy i j by grind] at this
    grind
  have hm := Rat.le_trans (mn_near v (-closed ax bx cx ay byy cy i j)) hd
  rw [ab_neg] at hm
  have m1 := mn_le (ab v)
  have m0 := mn_nn (ab_nonneg v)
  have hmn := ab_le.1 hm
  generalize ((l.getD (j * W + i) 0 : Int) : Rat) = u at *
  generalize mn (ab (closed ax bx cx ay byy cy i j)) = s at *
  generalize mn (ab v) = t at *
  rw [ab_le]
  clear hm hd hv1 k
  grind
end Go.Proofs.Ytmgcbodlolnheaa
