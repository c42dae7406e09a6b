/- What a line from point to point adds to a pixel's sum. No program is in sight. -/
import Derived.Test.YtmgcbodlolnheaaGa
namespace Go.Proofs.Ytmgcbodlolnheaa

/-- Along x = k y + q, from height c0 to c1. -/
def along (k q c0 c1 : Rat) : Rat := (c1 - c0) * mean (k * c0 + q) (k * c1 + q)

theorem along_self (k q c : Rat) : along k q c c = 0 := by unfold along; grind
theorem along_k (k q c0 c1 : Rat) : k * along k q c0 c1 = bi (k * c1 + q) - bi (k * c0 + q) := by
  have := mean_mul (k * c0 + q) (k * c1 + q)
  unfold along; grind
theorem along_add (k q a b c : Rat) : along k q a b + along k q b c = along k q a c := by
  by_cases hk : k = 0
  · subst hk
    have e : ∀ c0 c1 : Rat, along 0 q c0 c1 = (c1 - c0) * cl q := by
      intro c0 c1; unfold along
      rw [show 0 * c0 + q = q by grind, show 0 * c1 + q = q by grind, mean_self]
    rw [e, e, e]; grind
  · have h1 := along_k k q a b
    have h2 := along_k k q b c
    have h3 := along_k k q a c
    rcases rne hk with h | h
    · refine cancel_right (c := -k) (by grind) (by grind)
    · refine cancel_right (c := k) (by grind) (by grind)

/-- A line from (x0, y0) to (x1, y1): cl x, summed over cl y. -/
def J (x0 y0 x1 y1 : Rat) : Rat := if y0 = y1 then 0 else along ((x1 - x0) / (y1 - y0)) (x0 - (x1 - x0) / (y1 - y0) * y0) (cl y0) (cl y1)

theorem J_flat (x0 x1 y : Rat) : J x0 y x1 y = 0 := by unfold J; rw [if_pos rfl]

theorem J_line {k q x0 y0 x1 y1 : Rat} (h0 : x0 = k * y0 + q) (h1 : x1 = k * y1 + q) : J x0 y0 x1 y1 = along k q (cl y0) (cl y1) := by
  unfold J
  split
  · next h => subst h; rw [along_self]
  · next h =>
    have hd := div_mul_self (a := x1 - x0) (b := y1 - y0) (by grind)
    have hk : (x1 - x0) / (y1 - y0) = k := by
      rcases rne h with hl | hl
      · exact cancel_right (c := y1 - y0) (by grind) (by grind)
      · exact cancel_right (c := y0 - y1) (by grind) (by grind)
    rw [hk, show x0 - k * y0 = q by grind]

theorem exists_line {x0 y0 x1 y1 : Rat} (h : y0 ≠ y1) : ∃ k q, x0 = k * y0 + q ∧ x1 = k * y1 + q := by
  have hd := div_mul_self (a := x1 - x0) (b := y1 - y0) (by grind)
  exact ⟨(x1 - x0) / (y1 - y0), x0 - (x1 - x0) / (y1 - y0) * y0, by grind, by grind⟩

theorem J_rev (x0 y0 x1 y1 : Rat) : J x1 y1 x0 y0 = - J x0 y0 x1 y1 := by
  by_cases h : y0 = y1
  · subst h; rw [J_flat, J_flat]; grind
  · obtain ⟨k, q, h0, h1⟩ := exists_line (x0 := x0) (x1 := x1) h
    rw [J_line h0 h1, J_line h1 h0]
    have := along_add k q (cl y0) (cl y1) (cl y0)
    rw [along_self] at this
    grind

/-- Three points of one line. -/
theorem J_add {x0 y0 x1 y1 xm ym t : Rat} (hx : xm = x0 + t * (x1 - x0)) (hy : ym = y0 + t * (y1 - y0)) : J x0 y0 xm ym + J xm ym x1 y1 = J x0 y0 x1 y1 := by
  by_cases h : y0 = y1
  · subst h
    have : ym = y0 := by grind
    subst this
    rw [J_flat, J_flat, J_flat]; grind
  · obtain ⟨k, q, h0, h1⟩ := exists_line (x0 := x0) (x1 := x1) h
    have hm : xm = k * ym + q := by grind
    rw [J_line h0 h1, J_line h0 hm, J_line hm h1]
    exact along_add _ _ _ _ _

/-- Where the line meets the clamped heights: as parts of the way. -/
theorem J_parts (y0 y1 : Rat) : ∃ s t : Rat, 0 ≤ s ∧ s ≤ 1 ∧ 0 ≤ t ∧ t ≤ 1 ∧ ∀ a b : Rat, J a y0 b y1 = (cl y1 - cl y0) * mean (a + s * (b - a)) (a + t * (b - a)) := by
  by_cases hc : cl y0 = cl y1
  · refine ⟨0, 0, by grind, by grind, by grind, by grind, ?_⟩
    intro a b
    by_cases h : y0 = y1
    · subst h; rw [J_flat]; grind
    · obtain ⟨k, q, h0, h1⟩ := exists_line (x0 := a) (x1 := b) h
      rw [J_line h0 h1, hc, along_self]; grind
  · have h : y0 ≠ y1 := fun e => hc (by rw [e])
    have hd0 := div_mul_self (a := cl y0 - y0) (b := y1 - y0) (by grind)
    have hd1 := div_mul_self (a := cl y1 - y0) (b := y1 - y0) (by grind)
    have hb : ∀ a b : Rat, J a y0 b y1 = (cl y1 - cl y0) * mean (a + (cl y0 - y0) / (y1 - y0) * (b - a)) (a + (cl y1 - y0) / (y1 - y0) * (b - a)) := by
      intro a b
      obtain ⟨k, q, h0, h1⟩ := exists_line (x0 := a) (x1 := b) h
      rw [J_line h0 h1]
      unfold along
      rw [show k * cl y0 + q = a + (cl y0 - y0) / (y1 - y0) * (b - a) by grind, show k * cl y1 + q = a + (cl y1 - y0) / (y1 - y0) * (b - a) by grind]
    refine ⟨(cl y0 - y0) / (y1 - y0), (cl y1 - y0) / (y1 - y0), ?_, ?_, ?_, ?_, hb⟩
    all_goals
      clear hb
      generalize (cl y0 - y0) / (y1 - y0) = s at *
      generalize (cl y1 - y0) / (y1 - y0) = t at *
      unfold cl at *
      rcases rne h with hl | hl
    · exact le_of_mul_le (c := y1 - y0) (by grind) (by grind)
    · exact le_of_mul_le (c := y0 - y1) (by grind) (by grind)
    · exact le_of_mul_le (c := y1 - y0) (by grind) (by grind)
    · exact le_of_mul_le (c := y0 - y1) (by grind) (by grind)
    · exact le_of_mul_le (c := y1 - y0) (by grind) (by grind)
    · exact le_of_mul_le (c := y0 - y1) (by grind) (by grind)
    · exact le_of_mul_le (c := y1 - y0) (by grind) (by grind)
    · exact le_of_mul_le (c := y0 - y1) (by grind) (by grind)

theorem mix_le {a b s m M : Rat} (h0 : 0 ≤ s) (h1 : s ≤ 1) (ha : m ≤ a) (hb : m ≤ b) (ha' : a ≤ M) (hb' : b ≤ M) : m ≤ a + s * (b - a) ∧ a + s * (b - a) ≤ M := by
  have e : a + s * (b - a) = (1 - s) * a + s * b := by grind
  have h2 := mul_le_mul_l ha (show 0 ≤ 1 - s by grind)
  have h3 := mul_le_mul_l hb h0
  have h4 := mul_le_mul_l ha' (show 0 ≤ 1 - s by grind)
  have h5 := mul_le_mul_l hb' h0
  rw [e]; constructor
  · grind
  · grind

/-- The x-coordinates moved by at most d to the right. -/
theorem J_move {x0 y0 x1 y1 x0' x1' d : Rat} (h0 : 0 ≤ x0' - x0) (h0' : x0' - x0 ≤ d) (h1 : 0 ≤ x1' - x1) (h1' : x1' - x1 ≤ d) :
    ∃ r, 0 ≤ r ∧ r ≤ d ∧ J x0' y0 x1' y1 = J x0 y0 x1 y1 + r * (cl y1 - cl y0) := by
  obtain ⟨s, t, hs0, hs1, ht0, ht1, hJ⟩ := J_parts y0 y1
  have a := mix_le hs0 hs1 h0 h1 h0' h1'
  have b := mix_le ht0 ht1 h0 h1 h0' h1'
  refine ⟨mean (x0' + s * (x1' - x0')) (x0' + t * (x1' - x0')) - mean (x0 + s * (x1 - x0)) (x0 + t * (x1 - x0)), ?_, ?_, ?_⟩
  · have := mean_mono (u := x0 + s * (x1 - x0)) (v := x0 + t * (x1 - x0)) (u' := x0' + s * (x1' - x0')) (v' := x0' + t * (x1' - x0')) (by grind) (by grind)
    grind
  · have := mean_lip2 (u := x0 + s * (x1 - x0)) (v := x0 + t * (x1 - x0)) (u' := x0' + s * (x1' - x0')) (v' := x0' + t * (x1' - x0')) (by grind) (by grind)
    grind
  · rw [hJ, hJ]; grind

/-- The same, to either side. -/
theorem J_near {x0 y0 x1 y1 x0' x1' d : Rat} (h0 : ab (x0' - x0) ≤ d) (h1 : ab (x1' - x1) ≤ d) : ab (J x0' y0 x1' y1 - J x0 y0 x1 y1) ≤ d * ab (cl y1 - cl y0) := by
  obtain ⟨s, t, hs0, hs1, ht0, ht1, hJ⟩ := J_parts y0 y1
  rw [ab_le] at h0 h1
  have a := mix_le hs0 hs1 h0.1 h1.1 h0.2 h1.2
  have b := mix_le ht0 ht1 h0.1 h1.1 h0.2 h1.2
  have hm := mean_lip (u := x0 + s * (x1 - x0)) (v := x0 + t * (x1 - x0)) (u' := x0' + s * (x1' - x0')) (v' := x0' + t * (x1' - x0')) (d := d) (by rw [ab_le]; grind) (by rw [ab_le]; grind)
  rw [hJ, hJ, show (cl y1 - cl y0) * mean (x0' + s * (x1' - x0')) (x0' + t * (x1' - x0')) - (cl y1 - cl y0) * mean (x0 + s * (x1 - x0)) (x0 + t * (x1 - x0)) = (mean (x0' + s * (x1' - x0')) (x0' + t * (x1' - x0')) - mean (x0 + s * (x1 - x0)) (x0 + t * (x1 - x0))) * (cl y1 - cl y0) by grind, ab_mul]
  exact mul_le_mul_r hm (ab_nonneg _)

theorem J_mean_between {x0 y0 x1 y1 m M : Rat} (h0 : m ≤ x0) (h1 : m ≤ x1) (h0' : x0 ≤ M) (h1' : x1 ≤ M) : ∃ r, cl m ≤ r ∧ r ≤ cl M ∧ J x0 y0 x1 y1 = (cl y1 - cl y0) * r := by
  obtain ⟨s, t, hs0, hs1, ht0, ht1, hJ⟩ := J_parts y0 y1
  have a := mix_le hs0 hs1 h0 h1 h0' h1'
  have b := mix_le ht0 ht1 h0 h1 h0' h1'
  refine ⟨_, ?_, ?_, hJ _ _⟩
  · have := mean_mono a.1 b.1; rw [mean_self] at this; exact this
  · have := mean_mono a.2 b.2; rw [mean_self] at this; exact this

/-- The trapezoid is near. -/
theorem J_trap (x0 y0 x1 y1 : Rat) : ab (J x0 y0 x1 y1 - (cl x0 + cl x1) / 2 * (cl y1 - cl y0)) ≤ ab (x1 - x0) * ab (cl y1 - cl y0) / 2 := by
  obtain ⟨r, hr0, hr1, hJ⟩ := J_mean_between (x0 := x0) (y0 := y0) (x1 := x1) (y1 := y1) (m := if x0 ≤ x1 then x0 else x1) (M := if x0 ≤ x1 then x1 else x0) (by grind) (by grind) (by grind) (by grind)
  have h : ab (r - (cl x0 + cl x1) / 2) ≤ ab (x1 - x0) / 2 := by
    rcases rtot x0 x1 with h | h
    · have h2 := cl_lip h
      have h3 := cl_mono h
      rw [if_pos h] at hr0 hr1
      rw [ab_of_nonneg (show 0 ≤ x1 - x0 by grind), ab_le]; grind
    · by_cases e : x0 = x1
      · subst e
        rw [if_pos Rat.le_refl] at hr0 hr1
        rw [ab_of_nonneg (show 0 ≤ x0 - x0 by grind), ab_le]; grind
      · have h2 := cl_lip h
        have h3 := cl_mono h
        rw [if_neg (by grind)] at hr0 hr1
        rw [ab_of_nonpos (show x1 - x0 ≤ 0 by grind), ab_le]; grind
  rw [hJ, show (cl y1 - cl y0) * r - (cl x0 + cl x1) / 2 * (cl y1 - cl y0) = (r - (cl x0 + cl x1) / 2) * (cl y1 - cl y0) by grind, ab_mul]
  have := mul_le_mul_r h (ab_nonneg (cl y1 - cl y0))
  grind

theorem ab_cl (x y : Rat) : ab (cl y - cl x) ≤ ab (y - x) := by
  rcases rtot x y with h | h
  · have := cl_lip h; have := cl_mono h
    rw [ab_of_nonneg (by grind), ab_of_nonneg (by grind)]; grind
  · have := cl_lip h; have := cl_mono h
    rw [ab_of_nonpos (by grind), ab_of_nonpos (by grind)]; grind

/-- By parts, but for an error. -/
def partErr (x0 y0 x1 y1 : Rat) : Rat := J x0 y0 x1 y1 + J y0 x0 y1 x1 - (cl x1 * cl y1 - cl x0 * cl y0)

theorem partErr_le (x0 y0 x1 y1 : Rat) : ab (partErr x0 y0 x1 y1) ≤ ab (x1 - x0) * ab (y1 - y0) := by
  have h1 := J_trap x0 y0 x1 y1
  have h2 := J_trap y0 x0 y1 x1
  have h3 := mul_le_mul_l (ab_cl y0 y1) (ab_nonneg (x1 - x0))
  have h4 := mul_le_mul_l (ab_cl x0 x1) (ab_nonneg (y1 - y0))
  have e : partErr x0 y0 x1 y1 = (J x0 y0 x1 y1 - (cl x0 + cl x1) / 2 * (cl y1 - cl y0)) + (J y0 x0 y1 x1 - (cl y0 + cl y1) / 2 * (cl x1 - cl x0)) := by unfold partErr; grind
  have h5 := ab_add (J x0 y0 x1 y1 - (cl x0 + cl x1) / 2 * (cl y1 - cl y0)) (J y0 x0 y1 x1 - (cl y0 + cl y1) / 2 * (cl x1 - cl x0))
  rw [e]
  grind

theorem partErr_half (r : Nat) : ∀ x0 y0 x1 y1 : Rat, ab (partErr x0 y0 x1 y1) * (r + 1) ≤ ab (x1 - x0) * ab (y1 - y0) := by
  induction r with
  | zero => intro x0 y0 x1 y1; have := partErr_le x0 y0 x1 y1; grind
  | succ r ih =>
    intro x0 y0 x1 y1
    have hx : (x0 + x1) / 2 = x0 + 1 / 2 * (x1 - x0) := by grind
    have hy : (y0 + y1) / 2 = y0 + 1 / 2 * (y1 - y0) := by grind
    have h1 := J_add hx hy
    have h2 := J_add hy hx
    have i1 := ih x0 y0 ((x0 + x1) / 2) ((y0 + y1) / 2)
    have i2 := ih ((x0 + x1) / 2) ((y0 + y1) / 2) x1 y1
    have e : partErr x0 y0 x1 y1 = partErr x0 y0 ((x0 + x1) / 2) ((y0 + y1) / 2) + partErr ((x0 + x1) / 2) ((y0 + y1) / 2) x1 y1 := by unfold partErr; grind
    have ha := ab_add (partErr x0 y0 ((x0 + x1) / 2) ((y0 + y1) / 2)) (partErr ((x0 + x1) / 2) ((y0 + y1) / 2) x1 y1)
    have ax : ab ((x0 + x1) / 2 - x0) = ab (x1 - x0) / 2 := by unfold ab; grind
    have ay : ab ((y0 + y1) / 2 - y0) = ab (y1 - y0) / 2 := by unfold ab; grind
    have bx : ab (x1 - (x0 + x1) / 2) = ab (x1 - x0) / 2 := by unfold ab; grind
    have byy : ab (y1 - (y0 + y1) / 2) = ab (y1 - y0) / 2 := by unfold ab; grind
    rw [ax, ay] at i1
    rw [bx, byy] at i2
    rw [← e] at ha
    have hn : (0 : Rat) ≤ r := by exact_mod_cast Nat.zero_le r
    have hp : 0 ≤ ab (partErr x0 y0 x1 y1) := ab_nonneg _
    have hk := mul_le_mul_r ha (show (0 : Rat) ≤ r + 1 by grind)
    have hr := mul_nn hp hn
    have hcast : ((r + 1 : Nat) : Rat) = r + 1 := by push_cast; rfl
    rw [hcast]
    grind

theorem J_swap (x0 y0 x1 y1 : Rat) : J x0 y0 x1 y1 + J y0 x0 y1 x1 = cl x1 * cl y1 - cl x0 * cl y0 := by
  have hz : partErr x0 y0 x1 y1 = 0 := by
    have h := fun r => partErr_half r x0 y0 x1 y1
    have hp : 0 ≤ ab (partErr x0 y0 x1 y1) := ab_nonneg _
    have h0 : ab (partErr x0 y0 x1 y1) = 0 := by
      refine Classical.byContradiction fun hne => ?_
      have hpos : 0 < ab (partErr x0 y0 x1 y1) := by grind
      obtain ⟨n, hn⟩ : ∃ n : Nat, ab (x1 - x0) * ab (y1 - y0) / ab (partErr x0 y0 x1 y1) < n := by
        refine ⟨(ab (x1 - x0) * ab (y1 - y0) / ab (partErr x0 y0 x1 y1)).floor.toNat + 1, ?_⟩
        have h1 := Rat.lt_floor (x := ab (x1 - x0) * ab (y1 - y0) / ab (partErr x0 y0 x1 y1))
        have h2 : ((ab (x1 - x0) * ab (y1 - y0) / ab (partErr x0 y0 x1 y1)).floor : Rat) ≤ (((ab (x1 - x0) * ab (y1 - y0) / ab (partErr x0 y0 x1 y1)).floor.toNat : Int) : Rat) := by
          exact_mod_cast Int.self_le_toNat _
        push_cast at h1 h2 ⊢
        grind
      have h3 := h n
      have h4 := div_mul_self (a := ab (x1 - x0) * ab (y1 - y0)) (b := ab (partErr x0 y0 x1 y1)) (by grind)
      generalize ab (x1 - x0) * ab (y1 - y0) / ab (partErr x0 y0 x1 y1) = z at hn h4
      have h5 := Rat.mul_lt_mul_of_pos_right hn hpos
      grind
    unfold ab at h0
    grind
  unfold partErr at hz
  grind
end Go.Proofs.Ytmgcbodlolnheaa
