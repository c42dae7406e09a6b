/- The path drawn: the sums are those of the polygon of 64 lines, but for a known error. No program is in sight. -/
import Derived.Test.YtmgcbodlolnheaaRr
namespace Go.Proofs.Ytmgcbodlolnheaa
open Ieee

theorem p2_m6 : p2 (-6) = 1 / 64 := by have := p2_negNat 6; exact this.trans (by decide +kernel)

theorem w64_read : single.read w64 = .number false (2 ^ 23) (-17) := by decide +kernel

theorem coord_ok (n : Int) (h0 : -8192 ≤ n) (h1 : n ≤ 8192) : ∃ r, coord n = some r ∧ F32 r ((n : Rat) / 64) ∧ Mult (-6) ((n : Rat) / 64) ∧ ab ((n : Rat) / 64) ≤ 128 := by
  have f := of32_ok n (by omega)
  have a0 : ((-8192 : Int) : Rat) ≤ n := Rat.intCast_le_intCast.2 h0
  have a1 : (n : Rat) ≤ ((8192 : Int) : Rat) := Rat.intCast_le_intCast.2 h1
  rw [show ((-8192 : Int) : Rat) = -8192 by decide +kernel] at a0
  rw [show ((8192 : Int) : Rat) = 8192 by decide +kernel] at a1
  have hb : ab ((n : Rat) / 64) ≤ 128 := by rw [ab_le]; grind
  have hm : Mult (-6) ((n : Rat) / 64) := ⟨n, by rw [p2_m6]; grind⟩
  obtain ⟨r, c, e, g1, g2, g3, g4, g5⟩ := div_spec ieee_eb32 f v_w64 (by decide +kernel) (huge2_lt32 (Rat.le_trans hb (le_huge (by decide +kernel))))
  obtain ⟨s, m, i, hr, _⟩ := f
  have he := g5 s false m 23 i (-17) hr w64_read (by decide) (read_form _ _ _ _ hr).2.1
  rw [he] at g3
  have hc := exact6 g3 hm (Rat.le_trans hb (by decide +kernel))
  rw [hc] at g2
  exact ⟨r, g1, g2, hm, hb⟩

theorem J_abs (x0 y0 x1 y1 : Rat) : ab (J x0 y0 x1 y1) ≤ ab (cl y1 - cl y0) := by
  obtain ⟨r, r0, r1, hJ⟩ := J_mean_between (x0 := x0) (y0 := y0) (x1 := x1) (y1 := y1) (m := if x0 ≤ x1 then x0 else x1) (M := if x0 ≤ x1 then x1 else x0) (by grind) (by grind) (by grind) (by grind)
  have hr0 := Rat.le_trans (cl_nn _) r0
  have hr1 := Rat.le_trans r1 (cl_le _)
  rw [hJ]
  have := ab_mul_le (Rat.le_refl (a := ab (cl y1 - cl y0))) (show ab r ≤ 1 by rw [ab_le]; grind)
  grind

theorem ab_cl1 (x y : Rat) : ab (cl y - cl x) ≤ 1 := by
  have := cl_nn x; have := cl_le x; have := cl_nn y; have := cl_le y
  rw [ab_le]; grind

theorem way_abs (x y : Nat → Rat) (n : Nat) : ab (way x y n) ≤ vary y n := by
  unfold way vary
  exact Rat.le_trans (sm_ab _ _) (sm_le fun m _ => J_abs _ _ _ _)

theorem par_shift (a e D h i : Rat) (m : Nat) : par (a - i) e D h m = par a e D h m - i := by unfold par; grind

/-- The closed polygon of 64 lines about a pixel. -/
def closed (ax bx cx ay byy cy : Rat) (i j : Nat) : Rat :=
  way (par (ax - i) (bx - ax) (ax - 2 * bx + cx) (1 / (64 : Nat))) (par (ay - j) (byy - ay) (ay - 2 * byy + cy) (1 / (64 : Nat))) 64 + J (cx - i) (cy - j) (ax - i) (ay - j)

theorem closed_abs (ax bx cx ay byy cy : Rat) (i j : Nat) : ab (closed ax bx cx ay byy cy i j) ≤ 3 := by
  have h1 := way_abs (par (ax - i) (bx - ax) (ax - 2 * bx + cx) (1 / (64 : Nat))) (par (ay - j) (byy - ay) (ay - 2 * byy + cy) (1 / (64 : Nat))) 64
  have h2 : vary (par (ay - j) (byy - ay) (ay - 2 * byy + cy) (1 / (64 : Nat))) 64 ≤ 2 := once_var (par_once _ _ _ _ (by decide +kernel)) 64
  have h3 := Rat.le_trans (J_abs (cx - i) (cy - j) (ax - i) (ay - j)) (ab_cl1 _ _)
  have := ab_add (way (par (ax - i) (bx - ax) (ax - 2 * bx + cx) (1 / (64 : Nat))) (par (ay - j) (byy - ay) (ay - 2 * byy + cy) (1 / (64 : Nat))) 64) (J (cx - i) (cy - j) (ax - i) (ay - j))
  unfold closed
  grind

theorem sumE_way (X Y : Nat → Rat) (i j n : Nat) : sumE X Y i j n = cz j (Y n) - cz j (Y 0) - way (fun m => X m - i) (fun m => Y m - j) n := by
  unfold sumE way addE
  rw [sm_sub, sm_tele (fun m => cz j (Y m))]

section
variable {W H n : Nat} {ax bx cx ay byy cy : Rat} {b' : Nat → Nat} {B' X Y : Nat → Rat}

theorem step_ok {a b c g : Rat} {Z : Nat → Rat} (ba : ab a ≤ 128) (bb : ab b ≤ 128) (bc : ab c ≤ 128) (h1 : 1 ≤ n) (hg : g = 1 / n) (hZ : ∀ m, m ≤ n → ab (Z m - par a (b - a) (a - 2 * b + c) g m) ≤ 22000 * u32) :
    ∀ l, l < n → ab (Z (l + 1) - Z l) ≤ 512 * g + 44000 * u32 := by
  intro l hl
  have hn1 : (1 : Rat) ≤ n := by have := nat_cast_le_of h1; exact this
  have hd := div_mul_self (a := 1) (b := (n : Rat)) (by grind)
  have g0 : 0 ≤ 1 / (n : Rat) := le_of_mul_le (c := n) (by grind) (by grind)
  rw [← hg] at hd g0
  have hlq := nat_cast_le_of (show l + 1 ≤ n by omega)
  push_cast at hlq
  have hl0 : (0 : Rat) ≤ l := by exact_mod_cast Nat.zero_le l
  have m1 := mul_le_mul_r hlq g0
  have m0 := mul_nn hl0 g0
  have k0 := hZ l (by omega)
  have k1 := hZ (l + 1) (by omega)
  have hs := curve_steep (s := l * g) (t := (l + 1 : Nat) * g) ba bb bc m0 (by grind) (by push_cast; grind) (by push_cast; grind)
  rw [← par_form, ← par_form] at hs
  have e : ab (((l + 1 : Nat) : Rat) * g - l * g) = g := by push_cast; rw [show ((l : Rat) + 1) * g - l * g = g by grind, ab_of_nonneg g0]
  rw [e] at hs
  have n0 := ab_le.1 k0
  have n1 := ab_le.1 k1
  have n2 := ab_le.1 hs
  rw [ab_le]; grind

theorem err_sum (D : Drawn W H ax bx cx ay byy cy b' B' n X Y) (bax : ab ax ≤ 128) (bbx : ab bx ≤ 128) (bcx : ab cx ≤ 128) (bay : ab ay ≤ 128) (bby : ab byy ≤ 128) (bcy : ab cy ≤ 128) (j : Nat) : sumErr X Y j n ≤ 402000 * u32 := by
  have hu := u32_pos
  have hu2 : u32 ≤ 1 / 16000000 := by decide +kernel
  have hn1 : (1 : Rat) ≤ n := by have := nat_cast_le_of D.n1; exact this
  have hn36 : (n : Rat) ≤ 36 := by have := nat_cast_le_of D.n36; exact this
  have hd := div_mul_self (a := 1) (b := (n : Rat)) (by grind)
  have sX := step_ok bax bbx bcx D.n1 rfl D.hX
  have sY := step_ok bay bby bcy D.n1 rfl D.hY
  have g0 : 0 ≤ 1 / (n : Rat) := le_of_mul_le (c := n) (by grind) (by grind)
  have hv := vary_near (x := par (ay - j) (byy - ay) (ay - 2 * byy + cy) (1 / n)) (x' := fun m => Y m - j) (n := n) (d := 22000 * u32) (fun m hm => by
    rw [par_shift, show Y m - (j : Rat) - (par ay (byy - ay) (ay - 2 * byy + cy) (1 / ↑n) m - j) = Y m - par ay (byy - ay) (ay - 2 * byy + cy) (1 / ↑n) m by grind]
    exact D.hY m hm)
  have hv2 : vary (par (ay - j) (byy - ay) (ay - 2 * byy + cy) (1 / n)) n ≤ 2 := once_var (par_once _ _ _ _ g0) n
  have hu36 := mul_le_mul_r hn36 (Rat.le_of_lt hu)
  have hvv : vary (fun m => Y m - j) n ≤ 21 / 10 := by grind
  have h1 : sumErr X Y j n ≤ sm (fun l => (480 * u32 * (512 * (1 / n) + 44000 * u32 + 2) + 103 * u32 * (512 * (1 / n) + 44000 * u32) + 303 * u32) + dr * ab (cl ((fun m => Y m - (j : Rat)) (l + 1)) - cl ((fun m => Y m - (j : Rat)) l))) n := by
    unfold sumErr
    refine sm_le fun l hl => ?_
    have q1 := mul_le_mul_l (show ab (Y (l + 1) - Y l) + 2 ≤ 512 * (1 / n) + 44000 * u32 + 2 by have := sY l hl; grind) (show 0 ≤ 480 * u32 by grind)
    have q2 := mul_le_mul_l (sX l hl) (show 0 ≤ 103 * u32 by grind)
    unfold lineErr
    grind
  rw [sm_add, sm_const, sm_mul] at h1
  have h2 : sm (fun l => ab (cl ((fun m => Y m - (j : Rat)) (l + 1)) - cl ((fun m => Y m - (j : Rat)) l))) n = vary (fun m => Y m - j) n := rfl
  rw [h2] at h1
  have h3 := mul_le_mul_l hvv (Rat.le_of_lt dr_pos)
  have hdr : dr = 27500 * u32 := rfl
  rw [hdr] at h1 h3
  have e : (n : Rat) * (480 * u32 * (512 * (1 / n) + 44000 * u32 + 2) + 103 * u32 * (512 * (1 / n) + 44000 * u32) + 303 * u32) = 480 * u32 * (512 + n * (44000 * u32 + 2)) + 103 * u32 * (512 + n * (44000 * u32)) + 303 * u32 * n := by grind
  rw [e] at h1
  have t1 : 512 + (n : Rat) * (44000 * u32 + 2) ≤ 5841 / 10 := by grind
  have t2 : 512 + (n : Rat) * (44000 * u32) ≤ 5121 / 10 := by grind
  have q1 := mul_le_mul_l t1 (show 0 ≤ 480 * u32 by grind)
  have q2 := mul_le_mul_l t2 (show 0 ≤ 103 * u32 by grind)
  clear sX sY hv hv2 hvv e h2
  generalize vary (fun m => Y m - j) n = V at *
  grind

/-- All of it. -/
theorem path_sum (D : Drawn W H ax bx cx ay byy cy b' B' n X Y) (bax : ab ax ≤ 128) (bbx : ab bx ≤ 128) (bcx : ab cx ≤ 128) (bay : ab ay ≤ 128) (bby : ab byy ≤ 128) (bcy : ab cy ≤ 128) (i j : Nat) :
    ab (sumE X Y i j n + addE i j cx cy ax ay + closed ax bx cx ay byy cy i j) ≤ 2042 / 10000 + 90200 * u32 := by
  have hu := u32_pos
  have hu2 : u32 ≤ 1 / 16000000 := by decide +kernel
  have hn1 : (1 : Rat) ≤ n := by have := nat_cast_le_of D.n1; exact this
  have hn36 : (n : Rat) ≤ 36 := by have := nat_cast_le_of D.n36; exact this
  have hd := div_mul_self (a := 1) (b := (n : Rat)) (by grind)
  have g0 : 0 ≤ 1 / (n : Rat) := le_of_mul_le (c := n) (by grind) (by grind)
  have hw := way_vertices (x := par (ax - i) (bx - ax) (ax - 2 * bx + cx) (1 / n)) (y := par (ay - j) (byy - ay) (ay - 2 * byy + cy) (1 / n)) (x' := fun m => X m - i) (y' := fun m => Y m - j) (n := n) (d := 22000 * u32) (by grind)
    (fun m hm => by
      rw [par_shift, show X m - (i : Rat) - (par ax (bx - ax) (ax - 2 * bx + cx) (1 / ↑n) m - i) = X m - par ax (bx - ax) (ax - 2 * bx + cx) (1 / ↑n) m by grind]
      exact D.hX m hm)
    (fun m hm => by
      rw [par_shift, show Y m - (j : Rat) - (par ay (byy - ay) (ay - 2 * byy + cy) (1 / ↑n) m - j) = Y m - par ay (byy - ay) (ay - 2 * byy + cy) (1 / ↑n) m by grind]
      exact D.hY m hm)
    (par_once _ _ _ _ g0) (par_once _ _ _ _ g0)
    (by rw [par_shift, par_form, show ((0 : Nat) : Rat) = 0 from rfl]; have := D.Y0; grind)
    (by rw [par_shift, par_last _ _ _ D.n1, D.Yn])
  have hbD : ab (ax - 2 * bx + cx) ≤ 512 ∧ ab (ay - 2 * byy + cy) ≤ 512 := by
    have := ab_le.1 bax; have := ab_le.1 bbx; have := ab_le.1 bcx
    have := ab_le.1 bay; have := ab_le.1 bby; have := ab_le.1 bcy
    constructor <;> rw [ab_le] <;> grind
  have hl := lines_near (ax - i) (bx - ax) (ax - 2 * bx + cx) (ay - j) (byy - ay) (ay - 2 * byy + cy) n 64 (by have := D.n1; omega) (by omega) (M := 2042 / 10000) D.flat (by
    rw [show (1 : Rat) / ((64 : Nat) : Rat) * (1 / ((64 : Nat) : Rat)) / 4 = 1 / 16384 by decide +kernel]
    have := hbD.1; have := hbD.2
    grind)
  have hu36 := mul_le_mul_r hn36 (Rat.le_of_lt hu)
  have hb : (22000 * u32) * (4 + 2 * (n * (22000 * u32))) ≤ 90200 * u32 := by
    have := mul_le_mul_l (show 4 + 2 * (n * (22000 * u32)) ≤ 41 / 10 by grind) (show 0 ≤ 22000 * u32 by grind)
    grind
  rw [sumE_way]
  unfold addE closed
  rw [D.Y0, D.Yn]
  have c1 := ab_le.1 hw
  have c2 := ab_le.1 hl
  generalize way (fun m => X m - (i : Rat)) (fun m => Y m - (j : Rat)) n = w1 at *
  generalize way (par (ax - i) (bx - ax) (ax - 2 * bx + cx) (1 / ↑n)) (par (ay - j) (byy - ay) (ay - 2 * byy + cy) (1 / ↑n)) n = w2 at *
  generalize way (par (ax - i) (bx - ax) (ax - 2 * bx + cx) (1 / ((64 : Nat) : Rat))) (par (ay - j) (byy - ay) (ay - 2 * byy + cy) (1 / ((64 : Nat) : Rat))) 64 = w3 at *
  rw [ab_le]
  clear hw hl
  grind
end

/-- The path: the curve and the line back. -/
theorem path_ok {W H : Nat} {ax ay bx bY cx cy : Nat} {axv ayv bxv byv cxv cyv : Rat} (hW : 1 ≤ W) (hH : H ≤ 64)
    (fax : F32 ax axv) (fay : F32 ay ayv) (fbx : F32 bx bxv) (fby : F32 bY byv) (fcx : F32 cx cxv) (fcy : F32 cy cyv)
    (max : Mult (-6) axv) (may : Mult (-6) ayv) (mbx : Mult (-6) bxv) (mby : Mult (-6) byv) (mcx : Mult (-6) cxv) (mcy : Mult (-6) cyv)
    (bax : ab axv ≤ 128) (bay : ab ayv ≤ 128) (bbx : ab bxv ≤ 128) (bby : ab byv ≤ 128) (bcx : ab cxv ≤ 128) (bcy : ab cyv ≤ 128) :
    ∃ b1 b2 B2, quadTo W H ax ay bx bY cx cy (fun _ => 0) = some b1 ∧ lineTo W H cx cy ax ay b1 = some b2 ∧ Buf b2 B2 ∧
      ∀ i j : Nat, i < W → j < H → ab (acc B2 (j * W + i) + closed axv bxv cxv ayv byv cyv i j) ≤ 2388 / 10000 := by
  have hu := u32_pos
  have hu2 : u32 ≤ 1 / 16700000 := by decide +kernel
  obtain ⟨b1, B1, n, X, Y, e1, D⟩ := quad_to hW hH fax fay fbx fby fcx fcy max may mbx mby mcx mcy bax bay bbx bby bcx bcy
  have hn36 : (n : Rat) ≤ 36 := by have := nat_cast_le_of D.n36; exact this
  have hHq : (H : Rat) ≤ 64 := by have := nat_cast_le_of hH; exact this
  obtain ⟨b2, B2, q1, q2, q3, q4⟩ := line_to (R := 64) (C := n * (204 / 100)) hW hH fcx fcy fax fay (by grind) (by grind) (by grind) (by grind) (mcx.down (by omega)) (max.down (by omega)) (by grind) D.buf D.low (.inr hHq) (by grind)
  refine ⟨b1, b2, B2, e1, q1, q2, ?_⟩
  intro i j hi hj
  have k1 := D.sums i j hi hj
  have k2 := err_sum D bax bbx bcx bay bby bcy j
  have k3 := path_sum D bax bbx bcx bay bby bcy i j
  have k4 := q4 i j hi hj
  have hle : lineErr 64 cxv cyv axv ayv j ≤ 85000 * u32 := by
    unfold lineErr
    have bx' : ab (axv - cxv) ≤ 256 := by
      have := ab_le.1 bax; have := ab_le.1 bcx; rw [ab_le]; grind
    have t1 := mul_le_mul_l bx' (show 0 ≤ 103 * u32 by grind)
    have t2 := mul_le_mul_l (ab_cl1 (cyv - j) (ayv - j)) (Rat.le_of_lt dr_pos)
    have hdr : dr = 27500 * u32 := rfl
    rw [hdr] at t2 ⊢
    grind
  have m1 := ab_le.1 k1
  have m3 := ab_le.1 k3
  have m4 := ab_le.1 k4
  rw [ab_le]
  clear k1 k3 k4 q4 q3
  grind
end Go.Proofs.Ytmgcbodlolnheaa
