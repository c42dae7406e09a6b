/- A parabola in n lines and in N: how far their sums are from each other. No program is in sight. -/
import Derived.Test.YtmgcbodlolnheaaGc
namespace Go.Proofs.Ytmgcbodlolnheaa

/-- The sum along a way of n lines. -/
def way (x y : Nat → Rat) (n : Nat) : Rat := sm (fun m => J (x m) (y m) (x (m + 1)) (y (m + 1))) n

def Aside (d : Rat) (x x' : Nat → Rat) (n : Nat) : Prop := (∀ m, m ≤ n → 0 ≤ x' m - x m ∧ x' m - x m ≤ d) ∨ (∀ m, m ≤ n → 0 ≤ x m - x' m ∧ x m - x' m ≤ d)

theorem way_x {x x' y : Nat → Rat} {n : Nat} {d : Rat} (hd : 0 ≤ d) (h : Aside d x x' n) (hy : Once y) : ab (way x' y n - way x y n) ≤ d := by
  have key : ∀ x x' : Nat → Rat, (∀ m, m ≤ n → 0 ≤ x' m - x m ∧ x' m - x m ≤ d) → ab (way x' y n - way x y n) ≤ d := by
    intro x x' h
    have hex : ∀ m, ∃ r : Rat, m < n → 0 ≤ r ∧ r ≤ d ∧ J (x' m) (y m) (x' (m + 1)) (y (m + 1)) = J (x m) (y m) (x (m + 1)) (y (m + 1)) + r * (cl (y (m + 1)) - cl (y m)) := by
      intro m
      by_cases hm : m < n
      · obtain ⟨r, h0, h1, h2⟩ := J_move (y0 := y m) (y1 := y (m + 1)) (h m (by omega)).1 (h m (by omega)).2 (h (m + 1) (by omega)).1 (h (m + 1) (by omega)).2
        exact ⟨r, fun _ => ⟨h0, h1, h2⟩⟩
      · exact ⟨0, fun hm' => absurd hm' hm⟩
    obtain ⟨r, hr⟩ := Classical.axiomOfChoice hex
    have hs := once_sum hy hd n (fun m hm => ⟨(hr m hm).1, (hr m hm).2.1⟩)
    have e : way x' y n - way x y n = sm (fun m => r m * (cl (y (m + 1)) - cl (y m))) n := by
      unfold way
      rw [← sm_sub]
      exact sm_congr fun m hm => by have := (hr m hm).2.2; grind
    rw [e]; exact hs
  rcases h with h | h
  · exact key x x' h
  · have := key x' x h
    rw [← ab_neg, show -(way x' y n - way x y n) = way x y n - way x' y n by grind]
    exact this

theorem way_swap (x y : Nat → Rat) (n : Nat) : way x y n = cl (x n) * cl (y n) - cl (x 0) * cl (y 0) - way y x n := by
  have h : sm (fun m => J (x m) (y m) (x (m + 1)) (y (m + 1)) + J (y m) (x m) (y (m + 1)) (x (m + 1))) n = sm (fun m => (fun m => cl (x m) * cl (y m)) (m + 1) - (fun m => cl (x m) * cl (y m)) m) n :=
    sm_congr fun m _ => J_swap _ _ _ _
  rw [sm_add, sm_tele (fun m => cl (x m) * cl (y m))] at h
  unfold way
  grind

theorem way_y {x y y' : Nat → Rat} {n : Nat} {d : Rat} (hd : 0 ≤ d) (h : Aside d y y' n) (hx : Once x) (h0 : y' 0 = y 0) (hn : y' n = y n) : ab (way x y' n - way x y n) ≤ d := by
  have h1 := way_x hd h hx
  rw [way_swap x y', way_swap x y, h0, hn, ← ab_neg]
  rw [show -(cl (x n) * cl (y n) - cl (x 0) * cl (y 0) - way y' x n - (cl (x n) * cl (y n) - cl (x 0) * cl (y 0) - way y x n)) = way y' x n - way y x n by grind]
  exact h1

/-- A parabola's coordinate at the m-th of the points h apart. -/
def par (a e D h : Rat) (m : Nat) : Rat := a + 2 * e * (m * h) + D * (m * h * (m * h))

theorem par_step (a e D h : Rat) (m : Nat) : par a e D h (m + 1) - par a e D h m = h * (2 * e) + h * h * D * (2 * m + 1) := by
  unfold par; push_cast; grind

theorem par_once (a e D h : Rat) (hh : 0 ≤ h) : Once (par a e D h) := by
  have s := par_step a e D h
  have hq := mul_nn hh hh
  rcases rtot 0 D with hD | hD
  · left
    intro m hm
    have s0 := s m
    have s1 := s (m + 1)
    have := mul_nn hq hD
    push_cast at s1
    grind
  · right
    intro m hm
    have s0 := s m
    have s1 := s (m + 1)
    have := mul_nn hq (show 0 ≤ -D by grind)
    push_cast at s1
    grind

/-- The fan between a chord and the lines that it cuts off. -/
theorem par_fan (ax ex Dx ay ey Dy h : Rat) (hh : 0 ≤ h) (p n : Nat) :
    (0 ≤ ex * Dy - ey * Dx → 0 ≤ sm (fun l => J (par ax ex Dx h (p + l)) (par ay ey Dy h (p + l)) (par ax ex Dx h (p + l + 1)) (par ay ey Dy h (p + l + 1))) n - J (par ax ex Dx h p) (par ay ey Dy h p) (par ax ex Dx h (p + n)) (par ay ey Dy h (p + n))) ∧
    (ex * Dy - ey * Dx ≤ 0 → sm (fun l => J (par ax ex Dx h (p + l)) (par ay ey Dy h (p + l)) (par ax ex Dx h (p + l + 1)) (par ay ey Dy h (p + l + 1))) n - J (par ax ex Dx h p) (par ay ey Dy h p) (par ax ex Dx h (p + n)) (par ay ey Dy h (p + n)) ≤ 0) := by
  induction n with
  | zero =>
    have e : J (par ax ex Dx h p) (par ay ey Dy h p) (par ax ex Dx h (p + 0)) (par ay ey Dy h (p + 0)) = 0 := by rw [Nat.add_zero, J_flat]
    rw [e]; unfold sm
    constructor <;> intro _ <;> grind
  | succ n ih =>
    have ht := tri_sign (par ax ex Dx h p) (par ay ey Dy h p) (par ax ex Dx h (p + n)) (par ay ey Dy h (p + n)) (par ax ex Dx h (p + n + 1)) (par ay ey Dy h (p + n + 1))
    have hc : cross (par ax ex Dx h p) (par ay ey Dy h p) (par ax ex Dx h (p + n)) (par ay ey Dy h (p + n)) (par ax ex Dx h (p + n + 1)) (par ay ey Dy h (p + n + 1)) = (2 * n * (n + 1) * (h * h * h)) * (ex * Dy - ey * Dx) := by
      unfold cross par; push_cast; grind
    have hn : (0 : Rat) ≤ n := by exact_mod_cast Nat.zero_le n
    have hk : 0 ≤ 2 * n * (n + 1) * (h * h * h) := mul_nn (mul_nn (by grind) (by grind)) (mul_nn (mul_nn hh hh) hh)
    rw [hc] at ht
    unfold tri at ht
    rw [J_rev (par ax ex Dx h p) (par ay ey Dy h p)] at ht
    show (_ → 0 ≤ (sm _ n + J _ _ _ _) - _) ∧ (_ → (sm _ n + J _ _ _ _) - _ ≤ 0)
    constructor
    · intro hs
      have h1 := ih.1 hs
      have h2 := ht.1 (mul_nn hk hs)
      rw [show p + (n + 1) = p + n + 1 by omega]
      grind
    · intro hs
      have h1 := ih.2 hs
      have h3 := mul_nn hk (show 0 ≤ -(ex * Dy - ey * Dx) by grind)
      have h2 := ht.2 (by grind)
      rw [show p + (n + 1) = p + n + 1 by omega]
      grind

/-- A line, cut into equal parts. -/
theorem J_cut (x0 y0 x1 y1 k : Rat) (n : Nat) :
    sm (fun l => J (x0 + l * k * (x1 - x0)) (y0 + l * k * (y1 - y0)) (x0 + (l + 1 : Nat) * k * (x1 - x0)) (y0 + (l + 1 : Nat) * k * (y1 - y0))) n = J x0 y0 (x0 + n * k * (x1 - x0)) (y0 + n * k * (y1 - y0)) := by
  induction n with
  | zero =>
    unfold sm
    rw [show y0 + ((0 : Nat) : Rat) * k * (y1 - y0) = y0 by push_cast; grind, J_flat]
  | succ n ih =>
    unfold sm
    rw [ih]
    have hn : (0 : Rat) ≤ n := by exact_mod_cast Nat.zero_le n
    have hd := div_mul_self (a := (n : Rat)) (b := n + 1) (by grind)
    refine J_add (t := (n : Rat) / (n + 1)) ?_ ?_ <;> push_cast <;> generalize (n : Rat) / (n + 1) = t at hd <;> grind

/-- The m-th point on the chords of L parts each. -/
def chord (x : Nat → Rat) (k : Rat) (L m : Nat) : Rat := x (m / L * L) + ((m % L : Nat) : Rat) * k * (x ((m / L + 1) * L) - x (m / L * L))

theorem chord_at (x : Nat → Rat) (k : Rat) (L : Nat) (p l : Nat) (hl : l < L) : chord x k L (p * L + l) = x (p * L) + (l : Rat) * k * (x ((p + 1) * L) - x (p * L)) := by
  unfold chord
  have h1 : (p * L + l) / L = p := by
    rw [Nat.mul_comm, Nat.mul_add_div (by omega), Nat.div_eq_of_lt hl]; omega
  have h2 : (p * L + l) % L = l := by
    rw [Nat.mul_comm, Nat.mul_add_mod, Nat.mod_eq_of_lt hl]
  rw [h1, h2]
theorem chord_at' (x : Nat → Rat) (k : Rat) (L : Nat) (hk : (L : Rat) * k = 1) (p l : Nat) (hL : 0 < L) (hl : l ≤ L) : chord x k L (p * L + l) = x (p * L) + (l : Rat) * k * (x ((p + 1) * L) - x (p * L)) := by
  by_cases h : l < L
  · exact chord_at x k L p l h
  · obtain rfl : l = L := by omega
    have := chord_at x k l (p + 1) 0 hL
    rw [show p * l + l = (p + 1) * l + 0 by rw [Nat.add_mul]; omega, this, hk]
    push_cast
    grind

theorem chord_way (x y : Nat → Rat) (k : Rat) (L n : Nat) (hL : 0 < L) (hk : (L : Rat) * k = 1) :
    way (chord x k L) (chord y k L) (n * L) = sm (fun p => J (x (p * L)) (y (p * L)) (x ((p + 1) * L)) (y ((p + 1) * L))) n := by
  unfold way
  rw [sm_block]
  refine sm_congr fun p _ => ?_
  have h := J_cut (x (p * L)) (y (p * L)) (x ((p + 1) * L)) (y ((p + 1) * L)) k L
  rw [hk] at h
  rw [show x (p * L) + 1 * (x ((p + 1) * L) - x (p * L)) = x ((p + 1) * L) by grind, show y (p * L) + 1 * (y ((p + 1) * L) - y (p * L)) = y ((p + 1) * L) by grind] at h
  rw [← h]
  refine sm_congr fun l hl => ?_
  rw [chord_at' x k L hk p l hL (by omega), chord_at' y k L hk p l hL (by omega), Nat.add_assoc, chord_at' x k L hk p (l + 1) hL (by omega), chord_at' y k L hk p (l + 1) hL (by omega)]

theorem chord_step (x : Nat → Rat) (k : Rat) (L : Nat) (hk : (L : Rat) * k = 1) (hL : 0 < L) (m : Nat) : chord x k L (m + 1) - chord x k L m = k * (x ((m / L + 1) * L) - x (m / L * L)) := by
  have hm := Nat.div_add_mod m L
  have hlt := Nat.mod_lt m hL
  generalize m / L = p at *
  generalize m % L = l at *
  obtain rfl : m = p * L + l := by rw [Nat.mul_comm]; exact hm.symm
  rw [Nat.add_assoc, chord_at' x k L hk p l hL (by omega), chord_at' x k L hk p (l + 1) hL (by omega)]
  push_cast; grind

theorem par_chord_once (a e D h k : Rat) (L : Nat) (hh : 0 ≤ h) (h0 : 0 ≤ k) (hk : (L : Rat) * k = 1) (hL : 0 < L) : Once (chord (par a e D h) k L) := by
  have st := chord_step (par a e D h) k L hk hL
  have hd : ∀ p : Nat, par a e D h ((p + 1) * L) - par a e D h (p * L) = L * h * (2 * e) + L * h * (L * h) * D * (2 * p + 1) := by
    intro p; unfold par; push_cast; grind
  have hLn : (0 : Rat) ≤ L := by exact_mod_cast Nat.zero_le L
  have hg := mul_nn hLn hh
  have hgg := mul_nn hg hg
  have hkp : 0 < k := by
    by_cases e : k = 0
    · subst e; grind
    · grind
  rcases rtot 0 D with hD | hD
  · left
    intro m hm
    have s0 := st m
    have s1 := st (m + 1)
    have hle : m / L ≤ (m + 1) / L := Nat.div_le_div_right (by omega)
    have hle' : ((m / L : Nat) : Rat) ≤ ((m + 1) / L : Nat) := by exact_mod_cast hle
    rw [hd] at s0 s1
    generalize ((m / L : Nat) : Rat) = p at *
    generalize (((m + 1) / L : Nat) : Rat) = q at *
    have h1 := mul_nn (mul_nn hgg hD) (show 0 ≤ q - p by grind)
    have h2 := mul_nn h0 h1
    grind
  · right
    intro m hm
    have s0 := st m
    have s1 := st (m + 1)
    have hle : m / L ≤ (m + 1) / L := Nat.div_le_div_right (by omega)
    have hle' : ((m / L : Nat) : Rat) ≤ ((m + 1) / L : Nat) := by exact_mod_cast hle
    rw [hd] at s0 s1
    generalize ((m / L : Nat) : Rat) = p at *
    generalize (((m + 1) / L : Nat) : Rat) = q at *
    have h1 := mul_nn (mul_nn hgg (show 0 ≤ -D by grind)) (show 0 ≤ q - p by grind)
    have h2 := mul_nn h0 h1
    grind

theorem quarter {w : Rat} : w * (1 - w) ≤ 1 / 4 := by have := sq_nn (w - 1 / 2); grind

theorem par_chord_aside (a e D h k g : Rat) (L n : Nat) (h0 : 0 ≤ k) (hk : (L : Rat) * k = 1) (hL : 0 < L) (hg : (L : Rat) * h = g) :
    Aside (ab D * (g * g / 4)) (par a e D h) (chord (par a e D h) k L) n := by
  have hLn : (0 : Rat) < L := by exact_mod_cast hL
  have hgg := sq_nn g
  have key : ∀ m, ∃ r, 0 ≤ r ∧ r ≤ g * g / 4 ∧ chord (par a e D h) k L m - par a e D h m = D * r := by
    intro m
    have hm := Nat.div_add_mod m L
    have hlt := Nat.mod_lt m hL
    have hltq : ((m % L : Nat) : Rat) ≤ L := by exact_mod_cast Nat.le_of_lt hlt
    have hge : (0 : Rat) ≤ ((m % L : Nat) : Rat) := by exact_mod_cast Nat.zero_le _
    unfold chord
    generalize m / L = p at *
    generalize m % L = l at *
    obtain rfl : m = p * L + l := by rw [Nat.mul_comm]; exact hm.symm
    have w0 := mul_nn hge h0
    have w1 := mul_le_mul_r hltq h0
    rw [hk] at w1
    have hh : h = k * g := by rw [← hg]; refine cancel_right hLn ?_; grind
    refine ⟨g * g * ((l * k) * (1 - l * k)), mul_nn hgg (mul_nn w0 (by grind)), ?_, ?_⟩
    · have := mul_le_mul_l (quarter (w := l * k)) hgg
      grind
    · have e1 : (L : Rat) * h = g := hg
      unfold par; push_cast
      have e2 : (l : Rat) * h = l * k * g := by rw [hh]; grind
      have e3 : ((p : Rat) * L + l) * h = p * g + l * k * g := by grind
      have e4 : (p : Rat) * L * h = p * g := by grind
      have e5 : ((p : Rat) + 1) * L * h = (p + 1) * g := by grind
      rw [e3, e4, e5]; grind
  rcases rtot 0 D with hD | hD
  · left
    intro m _
    obtain ⟨r, r0, r1, hr⟩ := key m
    rw [hr, ab_of_nonneg hD]
    exact ⟨mul_nn hD r0, mul_le_mul_l r1 hD⟩
  · right
    intro m _
    obtain ⟨r, r0, r1, hr⟩ := key m
    rw [show par a e D h m - chord (par a e D h) k L m = (-D) * r by grind, ab_of_nonpos hD]
    exact ⟨mul_nn (by grind) r0, mul_le_mul_l r1 (by grind)⟩

/-- The parabola in n lines, each g = 1/n long. -/
theorem par_coarse (a e D h g : Rat) (L p : Nat) (hg : (L : Rat) * h = g) : par a e D h (p * L) = par a e D g p := by
  unfold par; push_cast
  have : (p : Rat) * L * h = p * g := by grind
  rw [this]

theorem lines_fine (ax ex Dx ay ey Dy h k g : Rat) (L n : Nat) (hh : 0 ≤ h) (h0 : 0 ≤ k) (hk : (L : Rat) * k = 1) (hL : 0 < L) (hg : (L : Rat) * h = g) :
    (0 ≤ ex * Dy - ey * Dx → way (par ax ex Dx g) (par ay ey Dy g) n ≤ way (par ax ex Dx h) (par ay ey Dy h) (n * L)) ∧
    (ex * Dy - ey * Dx ≤ 0 → way (par ax ex Dx h) (par ay ey Dy h) (n * L) ≤ way (par ax ex Dx g) (par ay ey Dy g) n) ∧
    ab (way (par ax ex Dx g) (par ay ey Dy g) n - way (par ax ex Dx h) (par ay ey Dy h) (n * L)) ≤ (ab Dx + ab Dy) * (g * g / 4) := by
  have hc := chord_way (par ax ex Dx h) (par ay ey Dy h) k L n hL hk
  have hw : way (chord (par ax ex Dx h) k L) (chord (par ay ey Dy h) k L) (n * L) = way (par ax ex Dx g) (par ay ey Dy g) n := by
    rw [hc]
    unfold way
    refine sm_congr fun p _ => ?_
    rw [par_coarse ax ex Dx h g L p hg, par_coarse ay ey Dy h g L p hg, par_coarse ax ex Dx h g L (p + 1) hg, par_coarse ay ey Dy h g L (p + 1) hg]
  have hb : way (par ax ex Dx h) (par ay ey Dy h) (n * L) = sm (fun p => sm (fun l => J (par ax ex Dx h (p * L + l)) (par ay ey Dy h (p * L + l)) (par ax ex Dx h (p * L + l + 1)) (par ay ey Dy h (p * L + l + 1))) L) n := by
    unfold way; rw [sm_block]
  have hf := fun p => par_fan ax ex Dx ay ey Dy h hh (p * L) L
  have hgg := sq_nn g
  refine ⟨?_, ?_, ?_⟩
  · intro hs
    rw [← hw, hc, hb]
    refine sm_le fun p _ => ?_
    have := (hf p).1 hs
    rw [show (p + 1) * L = p * L + L by rw [Nat.add_mul]; omega]
    grind
  · intro hs
    rw [← hw, hc, hb]
    refine sm_le fun p _ => ?_
    have := (hf p).2 hs
    rw [show (p + 1) * L = p * L + L by rw [Nat.add_mul]; omega]
    grind
  · rw [← hw]
    have h1 := way_x (mul_nn (ab_nonneg Dx) (by grind)) (par_chord_aside ax ex Dx h k g L (n * L) h0 hk hL hg) (par_once ay ey Dy h hh)
    have e0 : chord (par ay ey Dy h) k L 0 = par ay ey Dy h 0 := by
      have := chord_at' (par ay ey Dy h) k L hk 0 0 hL (by omega)
      rw [Nat.zero_mul] at this; rw [this]; push_cast; grind
    have en : chord (par ay ey Dy h) k L (n * L) = par ay ey Dy h (n * L) := by
      have := chord_at' (par ay ey Dy h) k L hk n 0 hL (by omega)
      rw [Nat.add_zero] at this; rw [this]; push_cast; grind
    have h2 := way_y (mul_nn (ab_nonneg Dy) (by grind)) (par_chord_aside ay ey Dy h k g L (n * L) h0 hk hL hg) (par_chord_once ax ex Dx h k L hh h0 hk hL) e0 en
    have h3 := ab_add (way (chord (par ax ex Dx h) k L) (par ay ey Dy h) (n * L) - way (par ax ex Dx h) (par ay ey Dy h) (n * L)) (way (chord (par ax ex Dx h) k L) (chord (par ay ey Dy h) k L) (n * L) - way (chord (par ax ex Dx h) k L) (par ay ey Dy h) (n * L))
    rw [show way (chord (par ax ex Dx h) k L) (par ay ey Dy h) (n * L) - way (par ax ex Dx h) (par ay ey Dy h) (n * L) + (way (chord (par ax ex Dx h) k L) (chord (par ay ey Dy h) k L) (n * L) - way (chord (par ax ex Dx h) k L) (par ay ey Dy h) (n * L)) = way (chord (par ax ex Dx h) k L) (chord (par ay ey Dy h) k L) (n * L) - way (par ax ex Dx h) (par ay ey Dy h) (n * L) by grind] at h3
    grind

/-- In n lines, and in m. -/
theorem lines_near (ax ex Dx ay ey Dy : Rat) (n m : Nat) (hn : 0 < n) (hm : 0 < m) {M : Rat}
    (h1 : (ab Dx + ab Dy) * (1 / n * (1 / n) / 4) ≤ M) (h2 : (ab Dx + ab Dy) * (1 / m * (1 / m) / 4) ≤ M) :
    ab (way (par ax ex Dx (1 / n)) (par ay ey Dy (1 / n)) n - way (par ax ex Dx (1 / m)) (par ay ey Dy (1 / m)) m) ≤ M := by
  have hnq : (0 : Rat) < n := by exact_mod_cast hn
  have hmq : (0 : Rat) < m := by exact_mod_cast hm
  have en := div_mul_self (a := 1) (b := (n : Rat)) (by grind)
  have em := div_mul_self (a := 1) (b := (m : Rat)) (by grind)
  have pn : (0 : Rat) ≤ 1 / n := le_of_mul_le hnq (by grind)
  have pm : (0 : Rat) ≤ 1 / m := le_of_mul_le hmq (by grind)
  have hh := mul_nn pn pm
  have f1 := lines_fine ax ex Dx ay ey Dy (1 / n * (1 / m)) (1 / m) (1 / n) m n hh pm (by grind) hm (by grind)
  have f2 := lines_fine ax ex Dx ay ey Dy (1 / n * (1 / m)) (1 / n) (1 / m) n m hh pn (by grind) hn (by grind)
  rw [Nat.mul_comm m n] at f2
  obtain ⟨a1, b1, c1⟩ := f1
  obtain ⟨a2, b2, c2⟩ := f2
  rw [ab_le] at c1 c2 ⊢
  rcases rtot 0 (ex * Dy - ey * Dx) with hs | hs
  · have := a1 hs; have := a2 hs; grind
  · have := b1 hs; have := b2 hs; grind
end Go.Proofs.Ytmgcbodlolnheaa
