/- Triangles, fans, and ways that turn once. No program is in sight. -/
import Derived.Test.YtmgcbodlolnheaaGb
namespace Go.Proofs.Ytmgcbodlolnheaa

/-- Twice a triangle's area. -/
def cross (ax ay bx byy cx cy : Rat) : Rat := (bx - ax) * (cy - ay) - (byy - ay) * (cx - ax)
/-- The sum around a triangle. -/
def tri (ax ay bx byy cx cy : Rat) : Rat := J ax ay bx byy + J bx byy cx cy + J cx cy ax ay

theorem J_right {x0 y0 x1 y1 x0' x1' : Rat} (h0 : x0 ≤ x0') (h1 : x1 ≤ x1') (hy : y0 ≤ y1) : J x0 y0 x1 y1 ≤ J x0' y0 x1' y1 := by
  obtain ⟨r, hr0, _, hJ⟩ := J_move (x0 := x0) (y0 := y0) (x1 := x1) (y1 := y1) (x0' := x0') (x1' := x1') (d := (x0' - x0) + (x1' - x1)) (by grind) (by grind) (by grind) (by grind)
  have := cl_mono hy
  have := mul_nn hr0 (show 0 ≤ cl y1 - cl y0 by grind)
  grind

theorem tri_mid {ax ay bx byy cx cy : Rat} (h1 : ay ≤ byy) (h2 : byy ≤ cy) :
    (0 ≤ cross ax ay bx byy cx cy → 0 ≤ tri ax ay bx byy cx cy) ∧ (cross ax ay bx byy cx cy ≤ 0 → tri ax ay bx byy cx cy ≤ 0) := by
  unfold tri
  rw [J_rev ax ay cx cy]
  by_cases e : ay = cy
  · have e1 : byy = ay := by grind
    subst e; subst e1
    rw [J_flat, J_flat, J_flat]
    constructor <;> intro _ <;> grind
  · have hp : 0 < cy - ay := by grind
    have hd := div_mul_self (a := byy - ay) (b := cy - ay) (by grind)
    generalize (byy - ay) / (cy - ay) = t at hd
    have hadd := J_add (x0 := ax) (y0 := ay) (x1 := cx) (y1 := cy) (xm := ax + t * (cx - ax)) (ym := byy) (t := t) rfl (by grind)
    have hc : cross ax ay bx byy cx cy = (bx - (ax + t * (cx - ax))) * (cy - ay) := by unfold cross; grind
    constructor
    · intro h
      have hb : ax + t * (cx - ax) ≤ bx := le_of_mul_le hp (by grind)
      have := J_right (x0 := ax) (x1 := ax + t * (cx - ax)) (x0' := ax) (x1' := bx) Rat.le_refl hb h1
      have := J_right (x0 := ax + t * (cx - ax)) (x1 := cx) (x0' := bx) (x1' := cx) hb Rat.le_refl h2
      grind
    · intro h
      have hb : bx ≤ ax + t * (cx - ax) := le_of_mul_le hp (by grind)
      have := J_right (x0' := ax) (x1' := ax + t * (cx - ax)) (x0 := ax) (x1 := bx) Rat.le_refl hb h1
      have := J_right (x0' := ax + t * (cx - ax)) (x1' := cx) (x0 := bx) (x1 := cx) hb Rat.le_refl h2
      grind

theorem tri_turn (ax ay bx byy cx cy : Rat) : tri bx byy cx cy ax ay = tri ax ay bx byy cx cy := by unfold tri; grind
theorem cross_turn (ax ay bx byy cx cy : Rat) : cross bx byy cx cy ax ay = cross ax ay bx byy cx cy := by unfold cross; grind
theorem tri_back (ax ay bx byy cx cy : Rat) : tri cx cy bx byy ax ay = - tri ax ay bx byy cx cy := by
  unfold tri
  rw [J_rev bx byy cx cy, J_rev ax ay bx byy, J_rev cx cy ax ay]; grind
theorem cross_back (ax ay bx byy cx cy : Rat) : cross cx cy bx byy ax ay = - cross ax ay bx byy cx cy := by unfold cross; grind

theorem tri_sign (ax ay bx byy cx cy : Rat) :
    (0 ≤ cross ax ay bx byy cx cy → 0 ≤ tri ax ay bx byy cx cy) ∧ (cross ax ay bx byy cx cy ≤ 0 → tri ax ay bx byy cx cy ≤ 0) := by
  have back : ∀ ax ay bx byy cx cy : Rat, cy ≤ byy → byy ≤ ay → (0 ≤ cross ax ay bx byy cx cy → 0 ≤ tri ax ay bx byy cx cy) ∧ (cross ax ay bx byy cx cy ≤ 0 → tri ax ay bx byy cx cy ≤ 0) := by
    intro ax ay bx byy cx cy h1 h2
    have := tri_mid (ax := cx) (ay := cy) (bx := bx) (byy := byy) (cx := ax) (cy := ay) h1 h2
    rw [tri_back, cross_back] at this
    constructor <;> intro h
    · have := this.2 (by grind); grind
    · have := this.1 (by grind); grind
  rcases rtot ay byy with h1 | h1 <;> rcases rtot byy cy with h2 | h2 <;> rcases rtot ay cy with h3 | h3
  · exact tri_mid h1 h2
  · exact tri_mid h1 h2
  · -- a ≤ c ≤ b: turn so that c is in the middle: (b, c, a): b ≥ c ≥ a
    have := back bx byy cx cy ax ay h3 h2
    rw [tri_turn, cross_turn] at this; exact this
  · -- c ≤ a ≤ b: (c, a, b)
    have := tri_mid (ax := cx) (ay := cy) (bx := ax) (byy := ay) (cx := bx) (cy := byy) h3 h1
    rw [← tri_turn, ← cross_turn] at this; exact this
  · -- b ≤ a ≤ c: (c, a, b): c ≥ a ≥ b
    have := back cx cy ax ay bx byy h1 h3
    rw [← tri_turn, ← cross_turn] at this; exact this
  · -- b ≤ c ≤ a: (b, c, a)
    have := tri_mid (ax := bx) (ay := byy) (bx := cx) (byy := cy) (cx := ax) (cy := ay) h2 h3
    rw [tri_turn, cross_turn] at this; exact this
  · exact back _ _ _ _ _ _ h2 h1
  · exact back _ _ _ _ _ _ h2 h1

/-- Sums. -/
def sm (f : Nat → Rat) : Nat → Rat
  | 0 => 0
  | n + 1 => sm f n + f n
theorem sm_congr {f g : Nat → Rat} {n : Nat} (h : ∀ m, m < n → f m = g m) : sm f n = sm g n := by
  induction n with
  | zero => rfl
  | succ n ih => unfold sm; rw [ih (fun m hm => h m (by omega)), h n (by omega)]
theorem sm_add (f g : Nat → Rat) (n : Nat) : sm (fun m => f m + g m) n = sm f n + sm g n := by
  induction n with
  | zero => unfold sm; grind
  | succ n ih => unfold sm; rw [ih]; grind
theorem sm_sub (f g : Nat → Rat) (n : Nat) : sm (fun m => f m - g m) n = sm f n - sm g n := by
  induction n with
  | zero => unfold sm; grind
  | succ n ih => unfold sm; rw [ih]; grind
theorem sm_neg (f : Nat → Rat) (n : Nat) : sm (fun m => - f m) n = - sm f n := by
  induction n with
  | zero => unfold sm; grind
  | succ n ih => unfold sm; rw [ih]; grind
theorem sm_mul (c : Rat) (f : Nat → Rat) (n : Nat) : sm (fun m => c * f m) n = c * sm f n := by
  induction n with
  | zero => unfold sm; grind
  | succ n ih => unfold sm; rw [ih]; grind
theorem sm_tele (f : Nat → Rat) (n : Nat) : sm (fun m => f (m + 1) - f m) n = f n - f 0 := by
  induction n with
  | zero => unfold sm; grind
  | succ n ih => unfold sm; rw [ih]; grind
theorem sm_le {f g : Nat → Rat} {n : Nat} (h : ∀ m, m < n → f m ≤ g m) : sm f n ≤ sm g n := by
  induction n with
  | zero => exact Rat.le_refl
  | succ n ih => unfold sm; have := ih (fun m hm => h m (by omega)); have := h n (by omega); grind
theorem sm_const (c : Rat) (n : Nat) : sm (fun _ => c) n = n * c := by
  induction n with
  | zero => unfold sm; push_cast; grind
  | succ n ih => unfold sm; rw [ih]; push_cast; grind
theorem sm_ab (f : Nat → Rat) (n : Nat) : ab (sm f n) ≤ sm (fun m => ab (f m)) n := by
  induction n with
  | zero => unfold sm ab; grind
  | succ n ih => unfold sm; have := ab_add (sm f n) (f n); grind
theorem sm_split (f : Nat → Rat) (p n : Nat) : sm f (p + n) = sm f p + sm (fun m => f (p + m)) n := by
  induction n with
  | zero => show sm f p = sm f p + 0; grind
  | succ n ih => show sm f (p + n) + f (p + n) = sm f p + (sm (fun m => f (p + m)) n + f (p + n)); rw [ih]; grind
theorem sm_block (f : Nat → Rat) (L n : Nat) : sm f (n * L) = sm (fun k => sm (fun l => f (k * L + l)) L) n := by
  induction n with
  | zero => rw [Nat.zero_mul]; rfl
  | succ n ih => rw [Nat.succ_mul, sm_split, ih]; rfl

/-- Once it goes up, it goes up. -/
def Valley (b : Nat → Rat) : Prop := ∀ m, b m ≤ b (m + 1) → b (m + 1) ≤ b (m + 2)
def Hill (b : Nat → Rat) : Prop := ∀ m, b (m + 1) ≤ b m → b (m + 2) ≤ b (m + 1)

theorem valley_sum {b r : Nat → Rat} {d : Rat} (hb : Valley b) (n : Nat) (hr : ∀ m, m < n → 0 ≤ r m ∧ r m ≤ d) :
    ∃ v, 0 ≤ v ∧ v ≤ cl (b n) ∧ v ≤ cl (b 0) ∧ -(d * (cl (b 0) - v)) ≤ sm (fun m => r m * (cl (b (m + 1)) - cl (b m))) n ∧ sm (fun m => r m * (cl (b (m + 1)) - cl (b m))) n ≤ d * (cl (b n) - v) ∧
      sm (fun m => ab (cl (b (m + 1)) - cl (b m))) n = (cl (b 0) - v) + (cl (b n) - v) ∧ (b (n + 1) < b n → v = cl (b n)) := by
  induction n with
  | zero => exact ⟨cl (b 0), cl_nn _, Rat.le_refl, Rat.le_refl, by unfold sm; grind, by unfold sm; grind, by unfold sm; grind, fun _ => rfl⟩
  | succ n ih =>
    obtain ⟨v, h0, h1, h2, h3, h4, h5, h6⟩ := ih (fun m hm => hr m (by omega))
    obtain ⟨r0, r1⟩ := hr n (by omega)
    rcases rtot (b n) (b (n + 1)) with hup | hdn
    · have hm := cl_mono hup
      have k1 := mul_nn r0 (show 0 ≤ cl (b (n + 1)) - cl (b n) by grind)
      have k2 := mul_le_mul_r r1 (show 0 ≤ cl (b (n + 1)) - cl (b n) by grind)
      refine ⟨v, h0, by grind, h2, ?_, ?_, ?_, ?_⟩
      · unfold sm; grind
      · unfold sm; grind
      · unfold sm; rw [h5, ab_of_nonneg (by grind)]; grind
      · intro hlt; have := hb n hup; grind
    · by_cases e : b (n + 1) = b n
      · have hce : cl (b (n + 1)) = cl (b n) := by rw [e]
        refine ⟨v, h0, by grind, h2, ?_, ?_, ?_, ?_⟩
        · unfold sm; rw [hce]; grind
        · unfold sm; rw [hce]; grind
        · unfold sm; rw [hce, h5, ab_of_nonneg (by grind)]; grind
        · intro hlt; have := hb n (by grind); grind
      · have hv := h6 (by grind)
        have hm := cl_mono hdn
        have k1 := mul_nn r0 (show 0 ≤ cl (b n) - cl (b (n + 1)) by grind)
        have k2 := mul_le_mul_r r1 (show 0 ≤ cl (b n) - cl (b (n + 1)) by grind)
        refine ⟨cl (b (n + 1)), cl_nn _, Rat.le_refl, by grind, ?_, ?_, ?_, fun _ => rfl⟩
        · unfold sm; grind
        · unfold sm; grind
        · unfold sm; rw [h5, ab_of_nonpos (by grind)]; grind

theorem cl_flip (x : Rat) : cl (1 - x) = 1 - cl x := by unfold cl; grind

/-- It turns at most once. -/
def Once (b : Nat → Rat) : Prop := Valley b ∨ Hill b

theorem hill_flip {b : Nat → Rat} (h : Hill b) : Valley (fun m => 1 - b m) := by
  intro m hm
  have := h m (by grind)
  grind

theorem once_sum {b r : Nat → Rat} {d : Rat} (hb : Once b) (hd : 0 ≤ d) (n : Nat) (hr : ∀ m, m < n → 0 ≤ r m ∧ r m ≤ d) :
    ab (sm (fun m => r m * (cl (b (m + 1)) - cl (b m))) n) ≤ d := by
  have key : ∀ b : Nat → Rat, Valley b → ab (sm (fun m => r m * (cl (b (m + 1)) - cl (b m))) n) ≤ d := by
    intro b hb
    obtain ⟨v, h0, h1, h2, h3, h4, _, _⟩ := valley_sum hb n hr
    have c0 := cl_le (b 0)
    have cn := cl_le (b n)
    have k1 := mul_le_mul_l (show cl (b 0) - v ≤ 1 by grind) hd
    have k2 := mul_le_mul_l (show cl (b n) - v ≤ 1 by grind) hd
    rw [ab_le]; grind
  rcases hb with h | h
  · exact key b h
  · have h1 := key _ (hill_flip h)
    have e : sm (fun m => r m * (cl (1 - b (m + 1)) - cl (1 - b m))) n = - sm (fun m => r m * (cl (b (m + 1)) - cl (b m))) n := by
      rw [← sm_neg]
      exact sm_congr fun m _ => by rw [cl_flip, cl_flip]; grind
    rw [e, ab_neg] at h1
    exact h1

theorem once_var {b : Nat → Rat} (hb : Once b) (n : Nat) : sm (fun m => ab (cl (b (m + 1)) - cl (b m))) n ≤ 2 := by
  have key : ∀ b : Nat → Rat, Valley b → sm (fun m => ab (cl (b (m + 1)) - cl (b m))) n ≤ 2 := by
    intro b hb
    obtain ⟨v, h0, h1, h2, _, _, h5, _⟩ := valley_sum (r := fun _ => 0) (d := 0) hb n (fun _ _ => ⟨Rat.le_refl, Rat.le_refl⟩)
    have c0 := cl_le (b 0)
    have cn := cl_le (b n)
    grind
  rcases hb with h | h
  · exact key b h
  · have h1 := key _ (hill_flip h)
    have e : sm (fun m => ab (cl (1 - b (m + 1)) - cl (1 - b m))) n = sm (fun m => ab (cl (b (m + 1)) - cl (b m))) n :=
      sm_congr fun m _ => by rw [cl_flip, cl_flip, ← ab_neg]; congr 1; grind
    rw [e] at h1
    exact h1
end Go.Proofs.Ytmgcbodlolnheaa
