/- The points of the curve that are drawn: how far they are from where they should be. No program is in sight. -/
import Derived.Test.YtmgcbodlolnheaaRo
namespace Go.Proofs.Ytmgcbodlolnheaa
open Ieee

theorem lerp_ok {t p q : Nat} {tv pv qv A : Rat} {g : Int} (hg : -60 ≤ g) (ht : F32 t tv) (hp : F32 p pv) (hq : F32 q qv) (t0 : 0 ≤ tv) (t1 : tv ≤ 1) (mt : Mult (-29) tv) (mp : Mult g pv) (mq : Mult g qv)
    (bp : ab pv ≤ 1281 / 10) (bq : ab qv ≤ 1281 / 10) (_hA : 0 ≤ A) (hex : ∀ c, Rounds single (qv - pv) c → ab (c - (qv - pv)) ≤ A * u32 ) (hA2 : A ≤ 257) :
    ∃ w v, lerp1 t p q = some w ∧ F32 w v ∧ Mult (g - 29) v ∧ ab (v - (pv + tv * (qv - pv))) ≤ (A + 388) * u32 := by
  have hu := u32_pos
  have hu2 : u32 ≤ 1 / 16000000 := by decide +kernel
  have bp' := ab_le.1 bp
  have bq' := ab_le.1 bq
  have hmix := mix_le (a := pv) (b := qv) (m := -(1281 / 10)) (M := 1281 / 10) t0 t1 bp'.1 bq'.1 bp'.2 bq'.2
  obtain ⟨e, ev, e1, f1, r1, k1⟩ := subB hq hp (B := 2563 / 10) (by rw [ab_le]; grind) (by decide +kernel)
  have me : Mult g ev := r1.keeps g (by rw [least32]; omega) (mq.sub mp)
  have k1' := hex ev r1
  have n1 := near_le k1'
  have uA := mul_le_mul_r hA2 (Rat.le_of_lt hu)
  have be : ab ev ≤ 257 := by rw [ab_le]; grind
  have bte := ab_mul_le (show ab tv ≤ 1 by rw [ab_le]; grind) be
  obtain ⟨m, mv, e2, f2, r2, k2⟩ := mulB ht f1 (B := 257) (by grind) (by decide +kernel)
  have mm : Mult (g - 29) mv := r2.keeps (g - 29) (by rw [least32]; omega) (by have := mt.mul me; rwa [show -29 + g = g - 29 by omega] at this)
  have n2 := near_le k2
  have hd : ab (tv * (ev - (qv - pv))) ≤ A * u32 := by
    have := ab_mul_le (show ab tv ≤ 1 by rw [ab_le]; grind) k1'
    grind
  have nd := ab_le.1 hd
  obtain ⟨r, rv, e3, f3, r3, k3⟩ := addB hp f2 (B := 130) (by rw [ab_le]; grind) (by decide +kernel)
  have mr : Mult (g - 29) rv := r3.keeps (g - 29) (by rw [least32]; omega) ((mp.down (by omega)).add mm)
  have n3 := near_le k3
  refine ⟨r, rv, ?_, f3, mr, ?_⟩
  · unfold lerp1
    rw [e1, Option.bind_some, e2, Option.bind_some, e3]
  · rw [ab_le]
    clear k1 k2 k3 hex hd bte be
    grind

theorem bezier_ok {t a b c : Nat} {tv av bv cv : Rat} (ht : F32 t tv) (ha : F32 a av) (hb : F32 b bv) (hc : F32 c cv) (t0 : 0 ≤ tv) (t1 : tv ≤ 1) (mt : Mult (-29) tv)
    (ma : Mult (-6) av) (mb : Mult (-6) bv) (mc : Mult (-6) cv) (ba : ab av ≤ 128) (bb : ab bv ≤ 128) (bc : ab cv ≤ 128) :
    ∃ w v, bezier t a b c = some w ∧ F32 w v ∧ Mult (-64) v ∧ ab (v - (av + 2 * (bv - av) * tv + (av - 2 * bv + cv) * (tv * tv))) ≤ 1100 * u32 := by
  have hu := u32_pos
  have hu2 : u32 ≤ 1 / 16000000 := by decide +kernel
  have ba' := ab_le.1 ba
  have bb' := ab_le.1 bb
  have bc' := ab_le.1 bc
  obtain ⟨p, pv, e1, f1, m1, k1⟩ := lerp_ok (A := 0) (by omega) ht ha hb t0 t1 mt ma mb (by grind) (by grind) Rat.le_refl (fun x r => by
    rw [exact6 r (mb.sub ma) (by rw [ab_le]; grind), Rat.sub_self, show ab 0 = 0 by decide +kernel]; grind) (by grind)
  obtain ⟨q, qv, e2, f2, m2, k2⟩ := lerp_ok (A := 0) (by omega) ht hb hc t0 t1 mt mb mc (by grind) (by grind) Rat.le_refl (fun x r => by
    rw [exact6 r (mc.sub mb) (by rw [ab_le]; grind), Rat.sub_self, show ab 0 = 0 by decide +kernel]; grind) (by grind)
  rw [show (-6 : Int) - 29 = -35 by omega] at m1 m2
  have h1 := mix_le (a := av) (b := bv) (m := -128) (M := 128) t0 t1 ba'.1 bb'.1 ba'.2 bb'.2
  have h2 := mix_le (a := bv) (b := cv) (m := -128) (M := 128) t0 t1 bb'.1 bc'.1 bb'.2 bc'.2
  have n1 := near_le k1
  have n2 := near_le k2
  obtain ⟨r, rv, e3, f3, m3, k3⟩ := lerp_ok (A := 257) (by omega) ht f1 f2 t0 t1 mt m1 m2 (by rw [ab_le]; grind) (by rw [ab_le]; grind) (by grind) (fun x r => by
    have := r.rel (dif_mult f2 f1)
    rw [u32_eq] at this
    have h3 := mul_le_mul_l (show ab (qv - pv) ≤ 257 by rw [ab_le]; grind) (Rat.le_of_lt hu)
    grind) (by grind)
  rw [show (-35 : Int) - 29 = -64 by omega] at m3
  refine ⟨r, rv, ?_, f3, m3, ?_⟩
  · unfold bezier
    rw [e1, Option.bind_some, e2, Option.bind_some, e3]
  · have d1 : ab ((1 - tv) * (pv - (av + tv * (bv - av)))) ≤ (1 - tv) * ((0 + 388) * u32) := ab_mul_le (by rw [ab_of_nonneg (by grind)]; exact Rat.le_refl) k1
    have d2 : ab (tv * (qv - (bv + tv * (cv - bv)))) ≤ tv * ((0 + 388) * u32) := ab_mul_le (by rw [ab_of_nonneg t0]; exact Rat.le_refl) k2
    have q1 := ab_le.1 d1
    have q2 := ab_le.1 d2
    have q3 := ab_le.1 k3
    rw [ab_le]
    clear k1 k2 k3 d1 d2 n1 n2 h1 h2
    grind

/-- The number that a word stands for. -/
def vl (w : Nat) : Rat := match single.read w with
  | .number s m e => num s m e
  | _ => 0
theorem vl_eq {w : Nat} {v : Rat} (h : F32 w v) : vl w = v := by
  obtain ⟨s, m, e, h1, h2⟩ := h
  unfold vl; rw [h1]; exact h2
theorem vl_ok {w : Nat} {v : Rat} (h : F32 w v) : F32 w (vl w) := by rw [vl_eq h]; exact h

def tW (nInv : Nat) : Nat → Nat
  | 0 => 0
  | m + 1 => (add32 (tW nInv m) nInv).getD 0
def vW (nInv a b c : Nat) : Nat → Nat
  | 0 => a
  | m + 1 => (bezier (tW nInv (m + 1)) a b c).getD 0

theorem inv_ok {n : Nat} (h1 : 1 ≤ n) (h2 : n ≤ 36) : ∃ w v, div32 w1 (of32 (n : Int)) = some w ∧ F32 w v ∧ 0 ≤ v ∧ Mult (-29) v ∧ ab (v - 1 / n) ≤ 21 / 10 * u32 * (1 / n) := by
  have hu := u32_pos
  have hu2 : u32 ≤ 1 / 16000000 := by decide +kernel
  have ht := tiny_u
  have f := of32_ok (n : Int) (by omega)
  rw [Rat.intCast_natCast] at f
  have hn1 : (1 : Rat) ≤ n := by have := nat_cast_le_of h1; exact this
  have hn2 : (n : Rat) ≤ 36 := by have := nat_cast_le_of h2; exact this
  have hd := div_mul_self (a := 1) (b := (n : Rat)) (by grind)
  have g0 : 0 ≤ 1 / (n : Rat) := le_of_mul_le (c := n) (by grind) (by grind)
  have g1 : 1 / (n : Rat) ≤ 1 := le_of_mul_le (c := n) (by grind) (by grind)
  have g2 : 1 / 36 ≤ 1 / (n : Rat) := le_of_mul_le (c := n) (by grind) (by grind)
  obtain ⟨w, v, e1, f1, k1⟩ := f32_div v_w1 f (by grind) (by rw [ab_of_nonneg g0]; exact Rat.le_trans g1 (le_huge (by decide +kernel)))
  rw [ab_of_nonneg g0] at k1
  have ug := mul_le_mul_l g2 (Rat.le_of_lt hu)
  have k2 : ab (v - 1 / n) ≤ 21 / 10 * u32 * (1 / n) := by
    generalize 1 / (n : Rat) = g at *
    grind
  have n2 := near_le k2
  have ug1 := mul_le_mul_l g1 (Rat.le_of_lt hu)
  generalize 1 / (n : Rat) = g at *
  have hv : 1 / 64 ≤ v := by grind
  refine ⟨w, v, e1, f1, by grind, ?_, k2⟩
  have e6 : p2 (-6) = 1 / 64 := by have := p2_negNat 6; exact this.trans (by decide +kernel)
  have := f1.grain (e := -6) (by rw [e6, ab_of_nonneg (by grind)]; exact hv)
  rwa [fb32, show (-6 : Int) - ((23 : Nat) : Int) = -29 by omega] at this

theorem t_ok {n nInv : Nat} {v : Rat} (h1 : 1 ≤ n) (h2 : n ≤ 36) (hf : F32 nInv v) (h0 : 0 ≤ v) (hm : Mult (-29) v) (k : ab (v - 1 / n) ≤ 21 / 10 * u32 * (1 / n)) :
    ∀ m, m ≤ n → ∃ tv, F32 (tW nInv m) tv ∧ 0 ≤ tv ∧ Mult (-29) tv ∧ ab (tv - m * (1 / n)) ≤ m * (102 / 100 * u32) + 21 / 10 * u32 * (m * (1 / n)) ∧ (1 ≤ m → ∃ w, add32 (tW nInv (m - 1)) nInv = some w ∧ tW nInv m = w) := by
  have hu := u32_pos
  have hu2 : u32 ≤ 1 / 16000000 := by decide +kernel
  have hn1 : (1 : Rat) ≤ n := by have := nat_cast_le_of h1; exact this
  have hn2 : (n : Rat) ≤ 36 := by have := nat_cast_le_of h2; exact this
  have hd := div_mul_self (a := 1) (b := (n : Rat)) (by grind)
  have g0 : 0 ≤ 1 / (n : Rat) := le_of_mul_le (c := n) (by grind) (by grind)
  have g1 : 1 / (n : Rat) ≤ 1 := le_of_mul_le (c := n) (by grind) (by grind)
  generalize 1 / (n : Rat) = g at *
  intro m
  induction m with
  | zero =>
    intro _
    refine ⟨0, v_zero, Rat.le_refl, ⟨0, by rw [Rat.intCast_zero]; grind⟩, ?_, by omega⟩
    have z : ((0 : Nat) : Rat) = 0 := rfl
    rw [z, show (0 : Rat) - 0 * g = 0 by grind, show ab 0 = 0 by decide +kernel]; grind
  | succ m ih =>
    intro hm1
    obtain ⟨tv, f, t0, mt, kt, _⟩ := ih (by omega)
    have hmn := nat_cast_le_of hm1
    push_cast at hmn
    have hm0 : (0 : Rat) ≤ m := by exact_mod_cast Nat.zero_le m
    have mg := mul_le_mul_r hmn g0
    have mg0 := mul_nn hm0 g0
    have n1 := near_le k
    have n2 := near_le kt
    have ug := mul_le_mul_l g1 (Rat.le_of_lt hu)
    have umg := mul_le_mul_l (show (m : Rat) * g ≤ 1 by grind) (Rat.le_of_lt hu)
    have um := mul_le_mul_r (show (m : Rat) ≤ 36 by grind) (Rat.le_of_lt hu)
    have bt : ab (tv + v) ≤ 1019 / 1000 := by rw [ab_le]; grind
    obtain ⟨w, c, e1, f1, r1, k1⟩ := addB f hf bt (by decide +kernel)
    have n3 := near_le k1
    have e2 : tW nInv (m + 1) = w := by
      show (add32 (tW nInv m) nInv).getD 0 = w
      rw [e1]; rfl
    refine ⟨c, by rw [e2]; exact f1, r1.nonneg (by grind), r1.keeps (-29) (by rw [least32]; omega) (mt.add hm), ?_, fun _ => ⟨w, by rw [Nat.add_sub_cancel]; exact e1, e2⟩⟩
    push_cast
    rw [ab_le]
    clear k kt k1 ih bt
    grind
end Go.Proofs.Ytmgcbodlolnheaa
