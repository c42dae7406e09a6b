/- What a row of bumps does to a buffer. No program is in sight. -/
import Derived.Test.YtmgcbodlolnheaaRa
import Derived.Test.YtmgcbodlolnheaaGc
namespace Go.Proofs.Ytmgcbodlolnheaa
open Ieee

/-- A bump: the column, the word that is added, its number. -/
structure Bp where
  xi : Int
  w : Nat
  v : Rat

def bumps (n base W : Nat) : List Bp → (Nat → Nat) → Option (Nat → Nat)
  | [], b => some b
  | p :: L, b => (bump n base W p.xi (some p.w) b).bind (bumps n base W L)

theorem bumps_append (n base W : Nat) (L M : List Bp) : ∀ b, bumps n base W (L ++ M) b = (bumps n base W L b).bind (bumps n base W M) := by
  induction L with
  | nil => intro b; rfl
  | cons p L ih =>
    intro b
    show (bump n base W p.xi (some p.w) b).bind (bumps n base W (L ++ M)) = _
    unfold bumps
    cases bump n base W p.xi (some p.w) b with
    | none => rfl
    | some b' => exact ih b'

def Buf (b : Nat → Nat) (B : Nat → Rat) : Prop := ∀ k, F32 (b k) (B k)
def acc (B : Nat → Rat) (t : Nat) : Rat := sm B (t + 1)

theorem acc_upd {B B' : Nat → Rat} {p t : Nat} (h : ∀ k, k ≠ p → B' k = B k) : acc B' t = acc B t + (if p ≤ t then B' p - B p else 0) := by
  have key : ∀ n, sm B' n = sm B n + (if p < n then B' p - B p else 0) := by
    intro n
    induction n with
    | zero => unfold sm; rw [if_neg (by omega)]; grind
    | succ n ih =>
      unfold sm
      rw [ih]
      by_cases e : n = p
      · subst e; rw [if_neg (by omega), if_pos (by omega)]; grind
      · rw [h n e]
        by_cases hp : p < n
        · rw [if_pos hp, if_pos (by omega)]; grind
        · rw [if_neg hp, if_neg (by omega)]; grind
  unfold acc
  rw [key]
  congr 1
  by_cases hp : p ≤ t
  · rw [if_pos hp, if_pos (by omega)]
  · rw [if_neg hp, if_neg (by omega)]

def tot (W : Nat) (tau : Int) : List Bp → Rat
  | [] => 0
  | p :: L => (if clampZ p.xi W ≤ tau then p.v else 0) + tot W tau L
def mass : List Bp → Rat
  | [] => 0
  | p :: L => ab p.v + mass L

theorem mass_nn (L : List Bp) : 0 ≤ mass L := by
  induction L with
  | nil => exact Rat.le_refl
  | cons p L ih => unfold mass; have := ab_nonneg p.v; grind

theorem cZ_nn (i : Int) (W : Nat) : 0 ≤ clampZ i W := by
  unfold clampZ; split
  · omega
  · split <;> omega
theorem cZ_le (i : Int) (W : Nat) : clampZ i W ≤ W := by
  unfold clampZ; split
  · omega
  · split <;> omega

/-- One bump. -/
theorem bump_num {n base W : Nat} {p : Bp} {b : Nat → Nat} {B : Nat → Rat} (hbuf : Buf b B) (hw : F32 p.w p.v) (hv : ab p.v ≤ 3) (hB : ∀ k, base ≤ k → k ≤ base + W → ab (B k) ≤ 100) :
    ∃ b' B', bump n base W p.xi (some p.w) b = some b' ∧ Buf b' B' ∧
      (∀ k, ab (B' k) ≤ ab (B k) + (if base ≤ k ∧ k ≤ base + W then ab p.v + 103 * u32 else 0)) ∧
      (∀ k, ¬ (base ≤ k ∧ k ≤ base + W) → B' k = B k) ∧
      ∀ t, t < n → ab (acc B' t - (acc B t + (if clampZ p.xi W ≤ (t : Int) - base then p.v else 0))) ≤ 103 * u32 := by
  obtain ⟨i, hi⟩ := Int.eq_ofNat_of_zero_le (cZ_nn p.xi W)
  have hle := cZ_le p.xi W
  have hu : 0 ≤ 103 * u32 := by decide +kernel
  unfold bump
  rw [hi, Int.toNat_natCast]
  by_cases hc : (i : Int) < (n : Int) - base
  · rw [if_pos hc]
    have hBk := hB (base + i) (by omega) (by omega)
    have hs := ab_add (B (base + i)) p.v
    obtain ⟨r, c, h1, h2, _, h4⟩ := f32_add (hbuf (base + i)) hw (Rat.le_trans (show _ ≤ (103 : Rat) by grind) (le_huge (by decide +kernel)))
    have h5 : ab (c - (B (base + i) + p.v)) ≤ 103 * u32 := by
      have := mul_le_mul_l (show ab (B (base + i) + p.v) ≤ 103 by grind) (show 0 ≤ u32 by decide +kernel)
      grind
    refine ⟨upd b (base + i) r, fun k => if k = base + i then c else B k, ?_, ?_, ?_, ?_, ?_⟩
    · have : add32 (b (base + i)) p.w = some r := h1
      simp only [this]
    · intro k
      unfold upd
      by_cases e : k = base + i
      · rw [if_pos e]; simp only [e, if_true]; exact h2
      · rw [if_neg e]; simp only [e, if_false]; exact hbuf k
    · intro k
      by_cases e : k = base + i
      · simp only [e, if_true]
        rw [if_pos (by omega)]
        have := ab_add (c - (B (base + i) + p.v)) (B (base + i) + p.v)
        rw [show c - (B (base + i) + p.v) + (B (base + i) + p.v) = c by grind] at this
        grind
      · simp only [e, if_false]
        have := ab_nonneg p.v
        split <;> grind
    · intro k hk
      have e : k ≠ base + i := by omega
      show (if k = base + i then c else B k) = B k
      rw [if_neg e]
    · intro t ht
      have ha := acc_upd (B := B) (B' := fun k => if k = base + i then c else B k) (p := base + i) (t := t) (fun k hk => by simp [hk])
      rw [ha]
      by_cases hti : base + i ≤ t
      · rw [if_pos hti, if_pos rfl, if_pos (show (i : Int) ≤ (t : Int) - base by omega)]
        rw [show acc B t + (c - B (base + i)) - (acc B t + p.v) = c - (B (base + i) + p.v) by grind]
        exact h5
      · rw [if_neg hti, if_neg (by omega)]
        rw [show acc B t + 0 - (acc B t + 0) = 0 by grind]
        exact hu
  · rw [if_neg hc]
    refine ⟨b, B, rfl, hbuf, ?_, fun _ _ => rfl, ?_⟩
    · intro k
      have := ab_nonneg p.v
      split <;> grind
    · intro t ht
      rw [if_neg (by omega)]
      rw [show acc B t - (acc B t + 0) = 0 by grind]
      exact hu

theorem bumps_num {n base W : Nat} (L : List Bp) : ∀ {b : Nat → Nat} {B : Nat → Rat}, Buf b B → (∀ p, p ∈ L → F32 p.w p.v) → mass L ≤ 3 →
    (∀ k, base ≤ k → k ≤ base + W → ab (B k) + (mass L + L.length * (103 * u32)) ≤ 100) →
    ∃ b' B', bumps n base W L b = some b' ∧ Buf b' B' ∧
      (∀ k, ab (B' k) ≤ ab (B k) + (if base ≤ k ∧ k ≤ base + W then mass L + L.length * (103 * u32) else 0)) ∧
      (∀ k, ¬ (base ≤ k ∧ k ≤ base + W) → B' k = B k) ∧
      ∀ t, t < n → ab (acc B' t - (acc B t + tot W ((t : Int) - base) L)) ≤ L.length * (103 * u32) := by
  have hu : 0 ≤ 103 * u32 := by decide +kernel
  induction L with
  | nil =>
    intro b B hbuf _ _ _
    refine ⟨b, B, rfl, hbuf, ?_, fun _ _ => rfl, ?_⟩
    · intro k; unfold mass; simp only [List.length_nil]; split <;> (push_cast; grind)
    · intro t _
      unfold tot
      simp only [List.length_nil]
      rw [show acc B t - (acc B t + 0) = 0 by grind]
      push_cast; unfold ab; grind
  | cons p L ih =>
    intro b B hbuf hF hm hB
    have hml := mass_nn L
    have hpv := ab_nonneg p.v
    have hm' : ab p.v + mass L ≤ 3 := hm
    have hlen : ((p :: L).length : Rat) = L.length + 1 := by rw [List.length_cons]; push_cast; rfl
    have hL0 : (0 : Rat) ≤ L.length := by exact_mod_cast Nat.zero_le _
    have hLu := mul_nn hL0 hu
    obtain ⟨b1, B1, e1, buf1, bd1, un1, ac1⟩ := bump_num (n := n) (base := base) (W := W) (p := p) hbuf (hF p List.mem_cons_self) (by grind) (fun k h1 h2 => by
      have := hB k h1 h2
      rw [hlen] at this
      have : mass (p :: L) = ab p.v + mass L := rfl
      grind)
    obtain ⟨b2, B2, e2, buf2, bd2, un2, ac2⟩ := ih buf1 (fun q hq => hF q (List.mem_cons_of_mem _ hq)) (by grind) (fun k h1 h2 => by
      have a := hB k h1 h2
      have c := bd1 k
      rw [if_pos ⟨h1, h2⟩] at c
      rw [hlen] at a
      have : mass (p :: L) = ab p.v + mass L := rfl
      grind)
    refine ⟨b2, B2, ?_, buf2, ?_, ?_, ?_⟩
    · unfold bumps; rw [e1]; exact e2
    · intro k
      have a := bd1 k
      have c := bd2 k
      rw [hlen]
      have : mass (p :: L) = ab p.v + mass L := rfl
      by_cases hk : base ≤ k ∧ k ≤ base + W
      · rw [if_pos hk] at a c ⊢; grind
      · rw [if_neg hk] at a c ⊢; grind
    · intro k hk; rw [un2 k hk, un1 k hk]
    · intro t ht
      have a := ac1 t ht
      have c := ac2 t ht
      have ht2 : tot W ((t : Int) - base) (p :: L) = (if clampZ p.xi W ≤ (t : Int) - base then p.v else 0) + tot W ((t : Int) - base) L := rfl
      rw [ht2, hlen]
      have k := ab_add (acc B1 t - (acc B t + (if clampZ p.xi W ≤ (t : Int) - base then p.v else 0))) (acc B2 t - (acc B1 t + tot W ((t : Int) - base) L))
      rw [show acc B1 t - (acc B t + (if clampZ p.xi W ≤ (t : Int) - base then p.v else 0)) + (acc B2 t - (acc B1 t + tot W ((t : Int) - base) L)) = acc B2 t - (acc B t + ((if clampZ p.xi W ≤ (t : Int) - base then p.v else 0) + tot W ((t : Int) - base) L)) by grind] at k
      grind
end Go.Proofs.Ytmgcbodlolnheaa
