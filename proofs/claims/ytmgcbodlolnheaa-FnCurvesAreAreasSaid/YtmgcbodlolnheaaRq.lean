/- The curve drawn: what it adds to the sums. No program is in sight. -/
import Derived.Test.YtmgcbodlolnheaaRp
namespace Go.Proofs.Ytmgcbodlolnheaa
open Ieee

/-- How steep the curve is. -/
theorem curve_steep {a b c s t : Rat} (ba : ab a ≤ 128) (bb : ab b ≤ 128) (bc : ab c ≤ 128) (s0 : 0 ≤ s) (s1 : s ≤ 1) (t0 : 0 ≤ t) (t1 : t ≤ 1) :
    ab ((a + 2 * (b - a) * t + (a - 2 * b + c) * (t * t)) - (a + 2 * (b - a) * s + (a - 2 * b + c) * (s * s))) ≤ ab (t - s) * 512 := by
  have ba' := ab_le.1 ba
  have bb' := ab_le.1 bb
  have bc' := ab_le.1 bc
  have h := mix_le (a := b - a) (b := c - b) (s := (t + s) / 2) (m := -256) (M := 256) (by grind) (by grind) (by grind) (by grind) (by grind) (by grind)
  rw [show (a + 2 * (b - a) * t + (a - 2 * b + c) * (t * t)) - (a + 2 * (b - a) * s + (a - 2 * b + c) * (s * s)) = (t - s) * (2 * (b - a + (t + s) / 2 * (c - b - (b - a)))) by grind]
  exact ab_mul_le Rat.le_refl (by rw [ab_le]; grind)

theorem par_form (a b c g : Rat) (m : Nat) : par a (b - a) (a - 2 * b + c) g m = a + 2 * (b - a) * (m * g) + (a - 2 * b + c) * (m * g * (m * g)) := rfl

theorem par_inside {a b c g : Rat} {m : Nat} (ba : ab a ≤ 128) (bb : ab b ≤ 128) (bc : ab c ≤ 128) (s0 : 0 ≤ m * g) (s1 : m * g ≤ 1) : ab (par a (b - a) (a - 2 * b + c) g m) ≤ 128 := by
  rw [par_form]
  generalize (m : Rat) * g = s at *
  have ba' := ab_le.1 ba
  have bb' := ab_le.1 bb
  have bc' := ab_le.1 bc
  have h1 := mix_le (a := a) (b := b) (s := s) (m := -128) (M := 128) s0 s1 ba'.1 bb'.1 ba'.2 bb'.2
  have h2 := mix_le (a := b) (b := c) (s := s) (m := -128) (M := 128) s0 s1 bb'.1 bc'.1 bb'.2 bc'.2
  have h3 := mix_le (a := a + s * (b - a)) (b := b + s * (c - b)) (s := s) (m := -128) (M := 128) s0 s1 h1.1 h2.1 h1.2 h2.2
  rw [ab_le]; grind

theorem vertex_ok {n nInv : Nat} {v : Rat} {a b c : Nat} {av bv cv : Rat} (h1 : 1 ≤ n) (h2 : n ≤ 36) (hf : F32 nInv v) (h0 : 0 ≤ v) (hm : Mult (-29) v) (k : ab (v - 1 / n) ≤ 21 / 10 * u32 * (1 / n))
    (ha : F32 a av) (hb : F32 b bv) (hc : F32 c cv) (ma : Mult (-6) av) (mb : Mult (-6) bv) (mc : Mult (-6) cv) (ba : ab av ≤ 128) (bb : ab bv ≤ 128) (bc : ab cv ≤ 128) (m : Nat) (hmn : m + 1 ≤ n) :
    F32 (vW nInv a b c m) (vl (vW nInv a b c m)) ∧ Mult (-64) (vl (vW nInv a b c m)) ∧ ab (vl (vW nInv a b c m) - par av (bv - av) (av - 2 * bv + cv) (1 / n) m) ≤ 22000 * u32 ∧ (1 ≤ m → bezier (tW nInv m) a b c = some (vW nInv a b c m)) := by
  have hu := u32_pos
  have hu2 : u32 ≤ 1 / 16000000 := by decide +kernel
  cases m with
  | zero =>
    have e : vl (vW nInv a b c 0) = av := vl_eq ha
    rw [e]
    refine ⟨ha, ma.down (by omega), ?_, by omega⟩
    have z : ((0 : Nat) : Rat) = 0 := rfl
    rw [par_form, z, show av - (av + 2 * (bv - av) * (0 * (1 / (n : Rat))) + (av - 2 * bv + cv) * (0 * (1 / (n : Rat)) * (0 * (1 / (n : Rat))))) = 0 by grind, show ab 0 = 0 by decide +kernel]
    grind
  | succ m =>
    obtain ⟨tv, ft, t0, mt, kt, _⟩ := t_ok h1 h2 hf h0 hm k (m + 1) (by omega)
    have hn1 : (1 : Rat) ≤ n := by have := nat_cast_le_of h1; exact this
    have hn2 : (n : Rat) ≤ 36 := by have := nat_cast_le_of h2; exact this
    have hd := div_mul_self (a := 1) (b := (n : Rat)) (by grind)
    have g0 : 0 ≤ 1 / (n : Rat) := le_of_mul_le (c := n) (by grind) (by grind)
    have g2 : 1 / 36 ≤ 1 / (n : Rat) := le_of_mul_le (c := n) (by grind) (by grind)
    have hmq := nat_cast_le_of hmn
    have hm0 : (0 : Rat) ≤ (m + 1 : Nat) := by exact_mod_cast Nat.zero_le (m + 1)
    rw [par_form]
    clear k hm
    generalize 1 / (n : Rat) = g at *
    have hmq' : ((m + 1 : Nat) : Rat) + 1 ≤ n := by push_cast at hmq ⊢; exact hmq
    generalize ((m + 1 : Nat) : Rat) = M at *
    have s0 := mul_nn hm0 g0
    have s1 := mul_le_mul_r hmq' g0
    have n1 := near_le kt
    have u1 := mul_le_mul_r (show M ≤ 35 by grind) (Rat.le_of_lt hu)
    have u2 := mul_le_mul_l (show M * g ≤ 1 by grind) (Rat.le_of_lt hu)
    have kt2 : ab (tv - M * g) ≤ 38 * u32 := by rw [ab_le]; grind
    have t1 : tv ≤ 1 := by grind
    obtain ⟨w, rv, e1, f1, m1, k1⟩ := bezier_ok ft ha hb hc t0 t1 mt ma mb mc ba bb bc
    have ev : vW nInv a b c (m + 1) = w := by
      show (bezier (tW nInv (m + 1)) a b c).getD 0 = w
      rw [e1]; rfl
    rw [ev, vl_eq f1]
    refine ⟨f1, m1, ?_, fun _ => e1⟩
    have hs := curve_steep ba bb bc s0 (by grind) t0 t1
    have hs2 := mul_le_mul_r kt2 (show (0 : Rat) ≤ 512 by grind)
    have hadd := ab_add (rv - (av + 2 * (bv - av) * tv + (av - 2 * bv + cv) * (tv * tv))) ((av + 2 * (bv - av) * tv + (av - 2 * bv + cv) * (tv * tv)) - (av + 2 * (bv - av) * (M * g) + (av - 2 * bv + cv) * (M * g * (M * g))))
    rw [show rv - (av + 2 * (bv - av) * tv + (av - 2 * bv + cv) * (tv * tv)) + ((av + 2 * (bv - av) * tv + (av - 2 * bv + cv) * (tv * tv)) - (av + 2 * (bv - av) * (M * g) + (av - 2 * bv + cv) * (M * g * (M * g)))) = rv - (av + 2 * (bv - av) * (M * g) + (av - 2 * bv + cv) * (M * g * (M * g))) by grind] at hadd
    refine Rat.le_trans hadd ?_
    clear hadd
    grind

/-- What lines add, and the errors. -/
def sumE (X Y : Nat → Rat) (i j n : Nat) : Rat := sm (fun l => addE i j (X l) (Y l) (X (l + 1)) (Y (l + 1))) n
def sumErr (X Y : Nat → Rat) (j n : Nat) : Rat := sm (fun l => lineErr (ab (Y (l + 1) - Y l) + 2) (X l) (Y l) (X (l + 1)) (Y (l + 1)) j) n

theorem quad_loop {W H ax ay bx bY cx cy nInv n : Nat} (hW : 1 ≤ W) (hH : H ≤ 64) (hn : n ≤ 36) (X Y : Nat → Rat)
    (hX : ∀ m, m + 1 ≤ n → F32 (vW nInv ax bx cx m) (X m) ∧ Mult (-64) (X m) ∧ ab (X m) ≤ 129) (hY : ∀ m, m + 1 ≤ n → F32 (vW nInv ay bY cy m) (Y m) ∧ ab (Y m) ≤ 129)
    (hbx : ∀ m, m + 1 ≤ n → 1 ≤ m → bezier (tW nInv m) ax bx cx = some (vW nInv ax bx cx m)) (hby : ∀ m, m + 1 ≤ n → 1 ≤ m → bezier (tW nInv m) ay bY cy = some (vW nInv ay bY cy m))
    (ht : ∀ m, m + 1 ≤ n → add32 (tW nInv m) nInv = some (tW nInv (m + 1))) :
    ∀ (k m : Nat) (bf : Nat → Nat) (B : Nat → Rat), m + k + 1 ≤ n → Buf bf B → (∀ q, ab (B q) ≤ m * (204 / 100)) →
      ∃ b' B', quadLoop W H ax ay bx bY cx cy nInv k (tW nInv m) (vW nInv ax bx cx m) (vW nInv ay bY cy m) bf = some (vW nInv ax bx cx (m + k), vW nInv ay bY cy (m + k), b') ∧ Buf b' B' ∧ (∀ q, ab (B' q) ≤ (m + k : Nat) * (204 / 100)) ∧
        ∀ i j : Nat, i < W → j < H → ab (acc B' (j * W + i) - (acc B (j * W + i) + (sumE X Y i j (m + k) - sumE X Y i j m))) ≤ sumErr X Y j (m + k) - sumErr X Y j m := by
  intro k
  induction k with
  | zero =>
    intro m bf B _ hbuf hB
    refine ⟨bf, B, rfl, hbuf, hB, ?_⟩
    intro i j _ _
    rw [Nat.add_zero, show acc B (j * W + i) - (acc B (j * W + i) + (sumE X Y i j m - sumE X Y i j m)) = 0 by grind, show ab 0 = 0 by decide +kernel]
    grind
  | succ k ih =>
    intro m bf B hmk hbuf hB
    obtain ⟨fx0, mx0, bx0⟩ := hX m (by omega)
    obtain ⟨fx1, mx1, bx1⟩ := hX (m + 1) (by omega)
    obtain ⟨fy0, by0⟩ := hY m (by omega)
    obtain ⟨fy1, by1⟩ := hY (m + 1) (by omega)
    have hm36 : (m : Rat) ≤ 36 := by have := nat_cast_le_of (show m ≤ 36 by omega); exact this
    have hn0 := ab_nonneg (Y (m + 1) - Y m)
    obtain ⟨b1, B1, g1, g2, g3, g4⟩ := line_to (R := ab (Y (m + 1) - Y m) + 2) hW hH fx0 fy0 fx1 fy1 bx0 by0 bx1 by1 mx0 mx1 (C := m * (204 / 100)) (by grind) hbuf hB (.inl Rat.le_refl) (by grind)
    obtain ⟨b2, B2, q1, q2, q3, q4⟩ := ih (m + 1) b1 B1 (by omega) g2 (fun q => by have := g3 q; push_cast; grind)
    rw [show m + 1 + k = m + (k + 1) by omega] at q1 q3 q4
    refine ⟨b2, B2, ?_, q2, q3, ?_⟩
    · unfold quadLoop
      rw [ht m (by omega), Option.bind_some, hbx (m + 1) (by omega) (by omega), Option.bind_some, hby (m + 1) (by omega) (by omega), Option.bind_some, g1, Option.bind_some]
      exact q1
    · intro i j hi hj
      have k1 := ab_le.1 (g4 i j hi hj)
      have k2 := ab_le.1 (q4 i j hi hj)
      have e1 : sumE X Y i j (m + 1) = sumE X Y i j m + addE i j (X m) (Y m) (X (m + 1)) (Y (m + 1)) := rfl
      have e2 : sumErr X Y j (m + 1) = sumErr X Y j m + lineErr (ab (Y (m + 1) - Y m) + 2) (X m) (Y m) (X (m + 1)) (Y (m + 1)) j := rfl
      rw [e1, e2] at k2
      rw [ab_le]
      clear g4 q4 ih
      grind

theorem acc_zero (t : Nat) : acc (fun _ => 0) t = 0 := by
  unfold acc
  rw [sm_const]; grind

/-- What a curve drawn is. -/
structure Drawn (W H : Nat) (ax bx cx ay byy cy : Rat) (b' : Nat → Nat) (B' : Nat → Rat) (n : Nat) (X Y : Nat → Rat) : Prop where
  buf : Buf b' B'
  n1 : 1 ≤ n
  n36 : n ≤ 36
  low : ∀ q, ab (B' q) ≤ n * (204 / 100)
  hX : ∀ m, m ≤ n → ab (X m - par ax (bx - ax) (ax - 2 * bx + cx) (1 / n) m) ≤ 22000 * u32
  hY : ∀ m, m ≤ n → ab (Y m - par ay (byy - ay) (ay - 2 * byy + cy) (1 / n) m) ≤ 22000 * u32
  X0 : X 0 = ax
  Y0 : Y 0 = ay
  Xn : X n = cx
  Yn : Y n = cy
  flat : (ab (ax - 2 * bx + cx) + ab (ay - 2 * byy + cy)) * (1 / n * (1 / n) / 4) ≤ 2042 / 10000
  sums : ∀ i j : Nat, i < W → j < H → ab (acc B' (j * W + i) - sumE X Y i j n) ≤ sumErr X Y j n

theorem par_last (a b c : Rat) {n : Nat} (h : 1 ≤ n) : par a (b - a) (a - 2 * b + c) (1 / n) n = c := by
  have hn1 : (1 : Rat) ≤ n := by have := nat_cast_le_of h; exact this
  have hd := div_mul_self (a := 1) (b := (n : Rat)) (by grind)
  rw [par_form, show (n : Rat) * (1 / n) = 1 by grind]; grind

/-- From the squares. -/
theorem flat_ok {dx dy N : Rat} (hN : 1 ≤ N) (h : dx * dx + dy * dy ≤ 33352 / 100000 * (N * N * (N * N))) : (ab dx + ab dy) * (1 / N * (1 / N) / 4) ≤ 2042 / 10000 := by
  have hd := div_mul_self (a := 1) (b := N) (by grind)
  have g0 : 0 ≤ 1 / N := le_of_mul_le (c := N) (by grind) (by grind)
  generalize 1 / N = g at *
  have a0 := ab_nonneg dx
  have b0 := ab_nonneg dy
  have ea : ab dx * ab dx = dx * dx := by rw [← ab_mul, ab_of_nonneg (sq_nn dx)]
  have eb : ab dy * ab dy = dy * dy := by rw [← ab_mul, ab_of_nonneg (sq_nn dy)]
  have hsq := sq_nn (ab dx - ab dy)
  generalize ab dx = A at *
  generalize ab dy = B at *
  have hs : (A + B) * (A + B) ≤ 66704 / 100000 * (N * N * (N * N)) := by grind
  have hN0 : 0 ≤ N := by grind
  have hNN := mul_nn hN0 hN0
  have hAB : A + B ≤ 8168 / 10000 * (N * N) := by
    rcases rtot (A + B) (8168 / 10000 * (N * N)) with h1 | h1
    · exact h1
    · have t1 := mul_le_mul_r h1 (show 0 ≤ A + B by grind)
      have t2 := mul_le_mul_l h1 (show 0 ≤ 8168 / 10000 * (N * N) by grind)
      have t3 : 66716224 / 100000000 * (N * N * (N * N)) ≤ (A + B) * (A + B) := by grind
      have t4 : 1 ≤ N * N := by have := mul_le_mul_r hN hN0; grind
      have t5 := mul_le_mul_r t4 hNN
      grind
  have hgg := mul_nn g0 g0
  have := mul_le_mul_r hAB hgg
  have e : N * N * (g * g) = 1 := by
    have : N * N * (g * g) = (g * N) * (g * N) := by grind
    rw [this, hd]; grind
  grind
end Go.Proofs.Ytmgcbodlolnheaa
