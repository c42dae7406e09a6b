/- The walk of one row of floatingLineTo: the loop's frame and body. -/
import Derived.Test.YtmgcbodlolnheaaWb
import Derived.Deep.QuietTactic
import Derived.BigQuiet
import Derived.Deep.DeepCutAuto
import Derived.Lib.Hide
namespace Go.Proofs.Ytmgcbodlolnheaa
open Go.RowKit

def Duo (zb bb : Nat) (k : Nat) : Prop := k = zb ∨ k = bb

/-- The first loop of a body. -/
def firstLoop : Code → Option Code
  | .loop c => some c
  | .seq a b => match firstLoop a with
    | some c => some c
    | none => firstLoop b
  | .block _ c => firstLoop c
  | .scope c => firstLoop c
  | .cond _ a b => match firstLoop a with
    | some c => some c
    | none => firstLoop b
  | _ => none

noncomputable def body31 : Code := (Try.f31.body.bind firstLoop).getD .skip

set_option maxRecDepth 100000 in
/-- The frame at a row's head: what is not named is f. -/
def fr31 (zb bx bY ax ay dir m W : Nat) (zM : Int) (f : Nat → Value) : Array Value :=
  #[.pointer (some ⟨zb, 0, none⟩), .float .f32 bx, .float .f32 bY, f 3, f 4, f 5, .float .f32 ax, .float .f32 ay, .float .f32 dir, .float .f32 m, f 10, f 11, .int .i32 zM,
    .int .i32 W, f 14, f 15, f 16, f 17, f 18, f 19, f 20, f 21, f 22, f 23, f 24, f 25, f 26, f 27, f 28, f 29, f 30, f 31, f 32, f 33, f 34, f 35, f 36, f 37, f 38, f 39,
    f 40, f 41, f 42, f 43, f 44, f 45, f 46, f 47, f 48, f 49, f 50, f 51, f 52, f 53, f 54, f 55, f 56, f 57, f 58, f 59, f 60, f 61, f 62, f 63, f 64, f 65, f 66, f 67,
    f 68, f 69, f 70, f 71, f 72, f 73, f 74, f 75, f 76, f 77, f 78, f 79, f 80, f 81, f 82, f 83, f 84, f 85, f 86, f 87, f 88, f 89, f 90, f 91, f 92, f 93, f 94, f 95,
    f 96, f 97, f 98, f 99, f 100, f 101, f 102, f 103, f 104, f 105, f 106, f 107, f 108, f 109, f 110, f 111, f 112, f 113, f 114, f 115, f 116, f 117, f 118, f 119, f 120,
    f 121, f 122, f 123, f 124, f 125, f 126, f 127, f 128, f 129, f 130, f 131, f 132, f 133, f 134, f 135, f 136, f 137, f 138, f 139, f 140, f 141, f 142, f 143, f 144,
    f 145, f 146, f 147, f 148, f 149, f 150, f 151, f 152, f 153, f 154, f 155, f 156, f 157, f 158, f 159, f 160, f 161, f 162, f 163, f 164, f 165, f 166, f 167, f 168,
    f 169, f 170, f 171, f 172, f 173, f 174, f 175, f 176, f 177, f 178, f 179, f 180, f 181, f 182, f 183, f 184, f 185, f 186, f 187, f 188, f 189, f 190, f 191, f 192,
    f 193, f 194, f 195, f 196, f 197, f 198, f 199, f 200, f 201, f 202, f 203, f 204, f 205, f 206, f 207, f 208, f 209, f 210, f 211, f 212, f 213, f 214, f 215, f 216,
    f 217, f 218, f 219, f 220, f 221, f 222, f 223, f 224, f 225, f 226, f 227, f 228, f 229, f 230, f 231, f 232, f 233, f 234, f 235, f 236, f 237, f 238, f 239, f 240,
    f 241, f 242, f 243, f 244, f 245, f 246, f 247, f 248, f 249, f 250, f 251, f 252, f 253, f 254, f 255, f 256, f 257, f 258, f 259, f 260, f 261, f 262, f 263, f 264,
    f 265, f 266, f 267, f 268, f 269, f 270, f 271, f 272, f 273, f 274, f 275, f 276, f 277, f 278, f 279, f 280, f 281, f 282, f 283, f 284, f 285, f 286, f 287, f 288,
    f 289, f 290, f 291, f 292, f 293, f 294, f 295, f 296, f 297, f 298, f 299, f 300, f 301, f 302, f 303, f 304, f 305, f 306, f 307, f 308, f 309, f 310, f 311, f 312,
    f 313, f 314, f 315, f 316, f 317, f 318, f 319, f 320, f 321, f 322, f 323, f 324, f 325, f 326, f 327, f 328, f 329, f 330, f 331, f 332, f 333, f 334, f 335, f 336,
    f 337, f 338, f 339, f 340, f 341, f 342, f 343, f 344, f 345, f 346, f 347, f 348, f 349, f 350, f 351, f 352, f 353, f 354, f 355, f 356, f 357, f 358, f 359, f 360,
    f 361, f 362, f 363]

/-- At the head of a row. -/
def RowsRel (w : World) (zb bb W H fx fy qx qy ay bY dir m : Nat) (b' : Nat → Nat) (zM : Int) (s10 s11 : Value) (wx : World) : Prop :=
  ∃ (y : Int) (x : Nat) (bq : Nat → Nat), s10 = .float .f32 x ∧ s11 = .int .i32 y ∧ -1000000 ≤ y ∧ y ≤ 1000000 ∧
    Hid (rows (W * H) W ay bY dir m (zM - y).toNat y x bq = some b') ∧ Ras wx zb bb W H fx fy qx qy bq ∧ Only (Duo zb bb) w wx

def RowsInv (w : World) (zb bb W H fx fy qx qy bx bY ax ay dir m : Nat) (b' : Nat → Nat) (zM : Int) (a : Act) (wx : World) : Prop :=
  ∃ f : Nat → Value, RowsRel w zb bb W H fx fy qx qy ay bY dir m b' zM (f 10) (f 11) wx ∧ a = ⟨fr31 zb bx bY ax ay dir m W zM f, []⟩

def rowsMu (zM : Int) (a : Act) (_ : World) : Nat := (zM - intOf (a.tmps.getD 11 undef)).toNat

theorem inv_mk {w : World} {zb bb W H fx fy qx qy bx bY ax ay dir m : Nat} {b' : Nat → Nat} {zM : Int} {wx : World} (tmps : Array Value) (y : Int) (x : Nat) (bq : Nat → Nat)
    (hfr : tmps = fr31 zb bx bY ax ay dir m W zM (fun k => tmps.getD k undef)) (h10 : tmps.getD 10 undef = .float .f32 x) (h11 : tmps.getD 11 undef = .int .i32 y)
    (hy1 : -1000000 ≤ y) (hy2 : y ≤ 1000000) (H1 : rows (W * H) W ay bY dir m (zM - y).toNat y x bq = some b') (hr : Ras wx zb bb W H fx fy qx qy bq) (ho : Only (Duo zb bb) w wx) :
    RowsInv w zb bb W H fx fy qx qy bx bY ax ay dir m b' zM ⟨tmps, []⟩ wx :=
  ⟨fun k => tmps.getD k undef, ⟨y, x, bq, h10, h11, hy1, hy2, H1, hr, ho⟩, congrArg (fun t => (⟨t, []⟩ : Act)) hfr⟩

theorem clampZ_nonneg (i : Int) (W : Nat) : 0 ≤ clampZ i W := by
  unfold clampZ; split
  · omega
  · split <;> omega
theorem clampZ_le (i : Int) (W : Nat) : clampZ i W ≤ W := by
  unfold clampZ; split
  · omega
  · split <;> omega

theorem whole_bounds {way : Ieee.Toward} {x : Nat} {n : Int} (h : wholeI way x = some n) : -1000000 ≤ n ∧ n ≤ 1000000 := by
  obtain ⟨_, _, _, _, h1, h2⟩ := whole_some h
  exact ⟨h1, h2⟩

/-- Inside a row's middle columns. -/
def MidRel (w : World) (zb bb W H fx fy qx qy base ds : Nat) (x1i : Int) (b3 : Nat → Nat) (s38 : Value) (wx : World) : Prop :=
  ∃ (xi : Int) (bm : Nat → Nat), s38 = .int .i32 xi ∧ -1000000 ≤ xi ∧ xi ≤ 1000003 ∧ Hid (midLoop (W * H) base W ds (x1i - 1 - xi).toNat xi bm = some b3) ∧
    Ras wx zb bb W H fx fy qx qy bm ∧ Only (Duo zb bb) w wx

/-- A bump, taken apart. -/
theorem bump_cases {n base W : Nat} {xi : Int} {v : Option Nat} {b b2 : Nat → Nat} (h : bump n base W xi v b = some b2) (hb : base ≤ n) :
    ∃ i : Nat, clampZ xi W = i ∧ i ≤ W ∧
      ((((i : Int) < ((n - base : Nat) : Int)) ∧ ∃ v' r, v = some v' ∧ add32 (b (base + i)) v' = some r ∧ b2 = upd b (base + i) r) ∨
       (¬ ((i : Int) < ((n - base : Nat) : Int)) ∧ b2 = b)) := by
  obtain ⟨i, hi⟩ := Int.eq_ofNat_of_zero_le (clampZ_nonneg xi W)
  have hle := clampZ_le xi W
  refine ⟨i, hi, by omega, ?_⟩
  unfold bump at h
  rw [hi] at h
  by_cases hc : (i : Int) < (n : Int) - base
  · left
    rw [if_pos hc] at h
    cases v with
    | none => cases h
    | some v' =>
      simp only [Int.toNat_natCast] at h
      cases hr : add32 (b (base + i)) v' with
      | none => rw [hr] at h; cases h
      | some r => rw [hr] at h; cases h; exact ⟨by omega, v', r, rfl, hr, rfl⟩
  · right
    rw [if_neg hc] at h
    cases h
    exact ⟨by omega, rfl⟩

set_option maxRecDepth 100000 in
set_option maxHeartbeats 4000000 in
theorem rows_round (w : World) (zb bb W H fx fy qx qy bx bY ax ay dir m : Nat) (b' : Nat → Nat) (zM : Int) (Q0 : Exit → Act → World → Prop) (hW : 1 ≤ W) (hW2 : W ≤ 64) (hH : H ≤ 64) (hzM : zM ≤ H)
    (hexit : ∀ a wx, Ras wx zb bb W H fx fy qx qy b' → Only (Duo zb bb) w wx → a.defers = [] → Q0 (.exit 0) a wx) (f : Nat → Value) (wr : World)
    (hrel : RowsRel w zb bb W H fx fy qx qy ay bY dir m b' zM (f 10) (f 11) wr) :
    Code.wp Try.prog body31 (Exit.then (fun a' w' => RowsInv w zb bb W H fx fy qx qy bx bY ax ay dir m b' zM a' w' ∧ rowsMu zM a' w' < rowsMu zM ⟨fr31 zb bx bY ax ay dir m W zM f, []⟩ wr) Q0)
      ⟨fr31 zb bx bY ax ay dir m W zM f, []⟩ wr := by
  obtain ⟨y, x, bq, h10, h11, hy1, hy2, HR, hr, ho⟩ := hrel
  have hmu : rowsMu zM ⟨fr31 zb bx bY ax ay dir m W zM f, []⟩ wr = (zM - y).toNat := by
    show (zM - intOf (f 11)).toNat = _
    rw [h11]; rfl
  rw [hmu]
  unfold fr31
  rw [h10, h11]
  clear hmu
  conv => arg 2; whnf
  by_cases hlt : y < zM
  · have hlt' : decide (y < zM) = true := by simpa using hlt
    obtain ⟨c, hc⟩ : ∃ c, (zM - y).toNat = c + 1 := ⟨(zM - y).toNat - 1, by omega⟩
    have hrow := HR.out
    rw [hc] at hrow
    unfold rows at hrow
    simp only [Option.bind_eq_some_iff] at hrow
    obtain ⟨dy, hdy, p, hp, xN, hxN, hrow⟩ := hrow
    unfold rowDy of32 at hdy
    have kmin := min_any (floatOfInt .f32 (y + 1)) bY
    have kmax := max_any (floatOfInt .f32 y) ay
    generalize (if lt32 (floatOfInt .f32 (y + 1)) bY then floatOfInt .f32 (y + 1) else bY) = mn at hdy kmin
    generalize (if gt32 (floatOfInt .f32 y) ay then floatOfInt .f32 y else ay) = mx at hdy kmax
    have r1 := rsub32 hdy
    have r2 := rmul32 hp
    have r3 := radd32 hxN
    have HROW := Lib.hid hrow
    have KMIN := Lib.hid kmin
    have KMAX := Lib.hid kmax
    have HC := Lib.hid hc
    clear hrow hdy hp hxN HR kmin kmax hc
    by_cases hy : y < 0
    · have hy' : decide (y < 0) = true := by simpa using hy
      go_wp2_with (first | (go_at_call 38; refine (KMIN.out _).mono ?_; rintro e w' ⟨rfl, rfl⟩) | (go_at_call 39; refine (KMAX.out _).mono ?_; rintro e w' ⟨rfl, rfl⟩))
      have h1 := HROW.out
      rw [if_pos hy] at h1
      have h2 := HC.out
      rw [show c = (zM - (y + 1)).toNat by omega] at h1
      refine ⟨inv_mk _ (y + 1) xN bq (by kernel_rfl) rfl rfl (by omega) (by omega) h1 hr ho, ?_⟩
      show (zM - (y + 1)).toNat < (zM - y).toNat
      omega
    · have hy' : decide (y < 0) = false := by simpa using hy
      have h1 := HROW.out
      rw [if_neg hy] at h1
      clear HROW
      simp only [Option.bind_eq_some_iff] at h1
      obtain ⟨d, hd, b1, hb1, hrest⟩ := h1
      have r4 := rmul32 hd
      have HREST := Lib.hid hrest
      obtain ⟨k, rfl⟩ := Int.eq_ofNat_of_zero_le (show 0 ≤ y by omega)
      unfold rowWrite at hb1
      simp only [Option.bind_eq_some_iff, Int.toNat_natCast] at hb1
      have HB1 := Lib.hid hb1
      clear hd hrest hb1
      obtain ⟨u, hcell⟩ := hr.cell
      have c0 : wr.cell? ⟨zb, 0, none⟩ = some (.slice (some ⟨bb, 0, none⟩) (W * H) (W * H)) := hcell 0
      clear hcell
      have hk1 : k + 1 ≤ H := by omega
      have hkW : (k : Int) * W ≤ 4096 := by
        have : k * W ≤ 64 * 64 := Nat.mul_le_mul (by omega) hW2
        exact_mod_cast this
      have hkW0 : 0 ≤ (k : Int) * W := by
        exact_mod_cast Nat.zero_le (k * W)
      have hn : k * W < W * H := by
        rw [Nat.mul_comm W H]
        have : (k + 1) * W ≤ H * W := Nat.mul_le_mul_right _ hk1
        rw [Nat.add_mul] at this
        omega
      have hlen : IntKind.u64.wrap ((W * H - k * W : Nat) : Int) = ((W * H - k * W : Nat) : Int) := by
        have : W * H ≤ 64 * 64 := Nat.mul_le_mul hW2 hH
        rw [IntKind.wrap_u64]; omega
      go_upto_if 140 with (first | (go_at_call 38; refine (KMIN.out _).mono ?_; rintro e w' ⟨rfl, rfl⟩) | (go_at_call 39; refine (KMAX.out _).mono ?_; rintro e w' ⟨rfl, rfl⟩))
      go_cut [18, 19] from 138 to 142 (fun s18 s19 wx => s18 = .float .f32 (if gt32 x xN then xN else x) ∧ s19 = .float .f32 (if gt32 x xN then x else xN) ∧ wx = wr)
      case first =>
        clear HB1
        generalize hB : (FloatKind.f32.format.order x xN == some .gt) = B
        have HG : Hid (gt32 x xN = B) := hB
        clear hB
        cases B
        all_goals
          go_wp2
          go_meet
          exact ⟨by rw [HG.out]; rfl, by rw [HG.out]; rfl, rfl⟩
      case rest =>
        obtain ⟨rfl, rfl, rfl⟩ := hcut
        have hb1 := HB1.out
        clear HB1
        generalize (if gt32 x xN then xN else x) = x0 at hb1 ⊢
        generalize (if gt32 x xN then x else xN) = x1 at hb1 ⊢
        obtain ⟨x0i, hx0, x1i, hx1, hb1⟩ := hb1
        have HB1 := Lib.hid hb1
        clear hb1
        have hx0b := whole_bounds hx0
        have hx1b := whole_bounds hx1
        obtain ⟨hx0b1, hx0b2⟩ := hx0b
        obtain ⟨hx1b1, hx1b2⟩ := hx1b
        go_upto_if 154 with (first | (go_at_call 36; refine (floor_any _ _ _ hx0).mono ?_; rintro e w' ⟨rfl, rfl⟩) | (go_at_call 37; refine (ceil_any _ _ _ hx1).mono ?_; rintro e w' ⟨rfl, rfl⟩))
        go_cut [] from 151 to 362 (fun wx => Ras wx zb bb W H fx fy qx qy b1 ∧ Only (Duo zb bb) w wx)
        case first =>
          clear HREST HC KMIN KMAX hexit r1 r2 r3 r4 h10 h11
          by_cases hnf : x1i ≤ x0i + 1
          · have hnf' : decide (x1i ≤ x0i + 1) = true := by simpa using hnf
            have hb1 := HB1.out
            rw [if_pos hnf] at hb1
            clear HB1
            unfold rowNear wHalf of32 at hb1
            simp only [Option.bind_eq_some_iff] at hb1
            obtain ⟨s, hs, h, hh, mm, hmm, b2, hb2, hb3⟩ := hb1
            have r1 := radd32 hs
            have r2 := rmul32 hh
            have r3 := rsub32 hmm
            have HB2 := Lib.hid hb2
            have HB3 := Lib.hid hb3
            clear hs hh hmm hb2 hb3
            go_upto_if 169 with (go_at_call 40; refine (clamp_any _ _ _ (by omega) (by omega) (by omega) (by omega)).mono ?_; rintro e w' ⟨rfl, rfl⟩)
            obtain ⟨i, hi, hiW, hbc⟩ := bump_cases HB2.out (Nat.le_of_lt hn)
            rw [hi]
            clear hi HB2
            go_cut [] from 161 to 180 (fun wx => Ras wx zb bb W H fx fy qx qy b2 ∧ Only (Duo zb bb) w wx)
            case first =>
              rcases hbc with ⟨hin, v', r, hv, hadd, rfl⟩ | ⟨hin, rfl⟩
              · have hin' : decide ((i : Int) < ((W * H - k * W : Nat) : Int)) = true := by simpa using hin
                simp only [subMul, Option.bind_eq_some_iff] at hv
                obtain ⟨e, he, hv⟩ := hv
                have q1 := rmul32 he
                have q2 := rsub32 hv
                clear he
                have q0 := radd32 hadd
                have ce := hr.bcell (k * W + i) (by omega)
                have fe := hr.bfree (k * W + i)
                have RR := hr.setBuf (k * W + i) r
                have OO := ho.setCell (p := ⟨bb, k * W + i, none⟩) (.inr rfl) (.float .f32 r)
                clear hv hadd
                go_wp2
                go_meet
                exact ⟨RR, OO⟩
              · have hin' : decide ((i : Int) < ((W * H - k * W : Nat) : Int)) = false := by simpa using hin
                go_wp2
                go_meet
                exact ⟨hr, ho⟩
            case rest =>
              clear hr ho
              obtain ⟨hr, ho⟩ := hcut
              go_upto_if 189 with (go_at_call 40; refine (clamp_any _ _ _ (by omega) (by omega) (by omega) (by omega)).mono ?_; rintro e w' ⟨rfl, rfl⟩)
              obtain ⟨i, hi, hiW, hbc⟩ := bump_cases HB3.out (Nat.le_of_lt hn)
              rw [hi]
              clear hi HB3
              rcases hbc with ⟨hin, v', r, hv, hadd, rfl⟩ | ⟨hin, rfl⟩
              · have hin' : decide ((i : Int) < ((W * H - k * W : Nat) : Int)) = true := by simpa using hin
                have q1 := rmul32 hv
                have q0 := radd32 hadd
                have ce := hr.bcell (k * W + i) (by omega)
                have fe := hr.bfree (k * W + i)
                have RR := hr.setBuf (k * W + i) r
                have OO := ho.setCell (p := ⟨bb, k * W + i, none⟩) (.inr rfl) (.float .f32 r)
                clear hv hadd
                go_wp2
                go_meet
                exact ⟨RR, OO⟩
              · have hin' : decide ((i : Int) < ((W * H - k * W : Nat) : Int)) = false := by simpa using hin
                go_wp2
                go_meet
                exact ⟨hr, ho⟩
          · have hnf' : decide (x1i ≤ x0i + 1) = false := by simpa using hnf
            have hb1 := HB1.out
            rw [if_neg hnf] at hb1
            clear HB1
            unfold rowFar wHalf of32 w1 w15 at hb1
            simp only [Option.bind_eq_some_iff] at hb1
            obtain ⟨g, hg, s, hs, x0f, hx0f, o, ho1, hs2, hhs2, ho2, hho2, a0, ha0, e1, he1, x1f, hx1f, hf2, hhf2, am, ham, b2, hb2, b4, hb4, hb5⟩ := hb1
            have r1 := rsub32 hg
            have r2 := rdiv32 hs
            have r3 := rsub32 hx0f
            have r4 := rsub32 ho1
            have r5 := rmul32 hhs2
            have r6 := rmul32 hho2
            have r7 := rmul32 ha0
            have r8 := rsub32 he1
            have r9 := radd32 hx1f
            have r10 := rmul32 hhf2
            have r11 := rmul32 ham
            have HB2 := Lib.hid hb2
            have HB4 := Lib.hid hb4
            have HB5 := Lib.hid hb5
            clear hg hs hx0f ho1 hhs2 hho2 ha0 he1 hx1f hhf2 ham hb2 hb4 hb5
            go_upto_if 231 with (go_at_call 40; refine (clamp_any _ _ _ (by omega) (by omega) (by omega) (by omega)).mono ?_; rintro e w' ⟨rfl, rfl⟩)
            obtain ⟨i, hi, hiW, hbc⟩ := bump_cases HB2.out (Nat.le_of_lt hn)
            rw [hi]
            clear hi HB2
            go_cut [] from 224 to 240 (fun wx => Ras wx zb bb W H fx fy qx qy b2 ∧ Only (Duo zb bb) w wx)
            case first =>
              rcases hbc with ⟨hin, v', r, hv, hadd, rfl⟩ | ⟨hin, rfl⟩
              · have hin' : decide ((i : Int) < ((W * H - k * W : Nat) : Int)) = true := by simpa using hin
                have q1 := rmul32 hv
                have q0 := radd32 hadd
                have ce := hr.bcell (k * W + i) (by omega)
                have fe := hr.bfree (k * W + i)
                have RR := hr.setBuf (k * W + i) r
                have OO := ho.setCell (p := ⟨bb, k * W + i, none⟩) (.inr rfl) (.float .f32 r)
                clear hv hadd
                go_wp2
                go_meet
                exact ⟨RR, OO⟩
              · have hin' : decide ((i : Int) < ((W * H - k * W : Nat) : Int)) = false := by simpa using hin
                go_wp2
                go_meet
                exact ⟨hr, ho⟩
            case rest =>
              clear hr ho
              obtain ⟨hr, ho⟩ := hcut
              clear r1 r2 r3 r4 r5 r6 r7 r8 r9 r10 r11
              go_upto_if 244 with (fail)
              go_cut [] from 241 to 345 (fun wx => Ras wx zb bb W H fx fy qx qy b4 ∧ Only (Duo zb bb) w wx)
              case first =>
                by_cases he2 : x1i = x0i + 2
                · have he2' : (x1i == x0i + 2) = true := by simpa using he2
                  have hb4 := HB4.out
                  rw [if_pos he2] at hb4
                  clear HB4 HB5 he2
                  have HB4 := Lib.hid hb4
                  clear hb4
                  go_upto_if 253 with (go_at_call 40; refine (clamp_any _ _ _ (by omega) (by omega) (by omega) (by omega)).mono ?_; rintro e w' ⟨rfl, rfl⟩)
                  obtain ⟨i, hi, hiW, hbc⟩ := bump_cases HB4.out (Nat.le_of_lt hn)
                  rw [hi]
                  clear hi HB4
                  rcases hbc with ⟨hin, v', r, hv, hadd, rfl⟩ | ⟨hin, rfl⟩
                  · have hin' : decide ((i : Int) < ((W * H - k * W : Nat) : Int)) = true := by simpa using hin
                    simp only [mulSub2, w1, Option.bind_eq_some_iff] at hv
                    obtain ⟨e, he, g', hg', hv⟩ := hv
                    have q1 := rsub32 he
                    have q2 := rsub32 hg'
                    have q3 := rmul32 hv
                    clear he hg'
                    have q0 := radd32 hadd
                    have ce := hr.bcell (k * W + i) (by omega)
                    have fe := hr.bfree (k * W + i)
                    have RR := hr.setBuf (k * W + i) r
                    have OO := ho.setCell (p := ⟨bb, k * W + i, none⟩) (.inr rfl) (.float .f32 r)
                    clear hv hadd
                    go_wp2
                    go_meet
                    exact ⟨RR, OO⟩
                  · have hin' : decide ((i : Int) < ((W * H - k * W : Nat) : Int)) = false := by simpa using hin
                    go_wp2
                    go_meet
                    exact ⟨hr, ho⟩
                · have he2' : (x1i == x0i + 2) = false := by simpa using he2
                  have hb4 := HB4.out
                  rw [if_neg he2] at hb4
                  clear HB4 HB5
                  simp only [Option.bind_eq_some_iff] at hb4
                  obtain ⟨q, hq, a1, ha1, b2', hb2, ds, hds, b3, hb3, kk, hkk, a2, ha2, hb4⟩ := hb4
                  have r1 := rsub32 hq
                  have r2 := rmul32 ha1
                  have HB2 := Lib.hid hb2
                  have HB3 := Lib.hid hb3
                  have HB4 := Lib.hid hb4
                  have HDS := Lib.hid hds
                  have HKK := Lib.hid hkk
                  have HA2 := Lib.hid ha2
                  clear hq ha1 hb2 hb3 hb4 hds hkk ha2
                  go_upto_if 278 with (go_at_call 40; refine (clamp_any _ _ _ (by omega) (by omega) (by omega) (by omega)).mono ?_; rintro e w' ⟨rfl, rfl⟩)
                  obtain ⟨i, hi, hiW, hbc⟩ := bump_cases HB2.out (Nat.le_of_lt hn)
                  rw [hi]
                  clear hi HB2
                  go_cut [] from 270 to 289 (fun wx => Ras wx zb bb W H fx fy qx qy b2' ∧ Only (Duo zb bb) w wx)
                  case first =>
                    rcases hbc with ⟨hin, v', r, hv, hadd, rfl⟩ | ⟨hin, rfl⟩
                    · have hin' : decide ((i : Int) < ((W * H - k * W : Nat) : Int)) = true := by simpa using hin
                      simp only [mulSub, Option.bind_eq_some_iff] at hv
                      obtain ⟨e, he, hv⟩ := hv
                      have q1 := rsub32 he
                      have q2 := rmul32 hv
                      clear he
                      have q0 := radd32 hadd
                      have ce := hr.bcell (k * W + i) (by omega)
                      have fe := hr.bfree (k * W + i)
                      have RR := hr.setBuf (k * W + i) r
                      have OO := ho.setCell (p := ⟨bb, k * W + i, none⟩) (.inr rfl) (.float .f32 r)
                      clear hv hadd
                      go_wp2
                      go_meet
                      exact ⟨RR, OO⟩
                    · have hin' : decide ((i : Int) < ((W * H - k * W : Nat) : Int)) = false := by simpa using hin
                      go_wp2
                      go_meet
                      exact ⟨hr, ho⟩
                  case rest =>
                    clear hr ho
                    obtain ⟨hr, ho⟩ := hcut
                    clear r1 r2
                    have r1 := rmul32 HDS.out
                    clear HDS
                    go_wp2
                    clear r1
                    go_loopw [38] (fun s38 wx => MidRel w zb bb W H fx fy qx qy (k * W) ds x1i b3 s38 wx) (fun s38 _ => (x1i - 1 - intOf s38).toNat)
                    case atStart => exact ⟨x0i + 2, b2', rfl, by omega, by omega, HB3, hr, ho⟩
                    case round =>
                      clear HB3 hr ho
                      obtain ⟨xi, bm, rfl, hxi1, hxi2, HM, hr, ho⟩ := hrel
                      by_cases hlx : xi < x1i - 1
                      · have hlx' : decide (xi < x1i - 1) = true := by simpa using hlx
                        obtain ⟨cc, hcc⟩ : ∃ cc, (x1i - 1 - xi).toNat = cc + 1 := ⟨(x1i - 1 - xi).toNat - 1, by omega⟩
                        have hm := HM.out
                        rw [hcc] at hm
                        unfold midLoop at hm
                        simp only [Option.bind_eq_some_iff] at hm
                        obtain ⟨bm2, hbm2, hm⟩ := hm
                        rw [show cc = (x1i - 1 - (xi + 1)).toNat by omega] at hm
                        have HBM := Lib.hid hbm2
                        have HM2 := Lib.hid hm
                        clear HM hm hbm2 hcc HKK HA2 HB4
                        go_upto_if 308 with (go_at_call 40; refine (clamp_any _ _ _ (by omega) (by omega) (by omega) (by omega)).mono ?_; rintro e w' ⟨rfl, rfl⟩)
                        obtain ⟨i, hi, hiW, hbc⟩ := bump_cases HBM.out (Nat.le_of_lt hn)
                        rw [hi]
                        clear hi HBM
                        rcases hbc with ⟨hin, v', r, hv, hadd, rfl⟩ | ⟨hin, rfl⟩
                        · have hin' : decide ((i : Int) < ((W * H - k * W : Nat) : Int)) = true := by simpa using hin
                          cases hv
                          have q0 := radd32 hadd
                          have ce := hr.bcell (k * W + i) (by omega)
                          have fe := hr.bfree (k * W + i)
                          have RR := hr.setBuf (k * W + i) r
                          have OO := ho.setCell (p := ⟨bb, k * W + i, none⟩) (.inr rfl) (.float .f32 r)
                          clear hadd
                          go_wp2
                          go_roundw
                          case rel => exact ⟨xi + 1, _, rfl, by omega, by omega, HM2, RR, OO⟩
                          case measure => simp [intOf]; omega
                        · have hin' : decide ((i : Int) < ((W * H - k * W : Nat) : Int)) = false := by simpa using hin
                          go_wp2
                          go_roundw
                          case rel => exact ⟨xi + 1, _, rfl, by omega, by omega, HM2, hr, ho⟩
                          case measure => simp [intOf]; omega
                      · have hlx' : decide (xi < x1i - 1) = false := by simpa using hlx
                        have hz : (x1i - 1 - xi).toNat = 0 := by omega
                        have hm := HM.out
                        rw [hz] at hm
                        unfold midLoop at hm
                        cases hm
                        clear HM hz
                        have r1 := rmul32 HKK.out
                        have r2 := radd32 HA2.out
                        clear HKK HA2
                        go_upto_if 333 with (go_at_call 40; refine (clamp_any _ _ _ (by omega) (by omega) (by omega) (by omega)).mono ?_; rintro e w' ⟨rfl, rfl⟩)
                        obtain ⟨i, hi, hiW, hbc⟩ := bump_cases HB4.out (Nat.le_of_lt hn)
                        rw [hi]
                        clear hi HB4
                        rcases hbc with ⟨hin, v', r, hv, hadd, rfl⟩ | ⟨hin, rfl⟩
                        · have hin' : decide ((i : Int) < ((W * H - k * W : Nat) : Int)) = true := by simpa using hin
                          simp only [mulSub2, w1, Option.bind_eq_some_iff] at hv
                          obtain ⟨e, he, g', hg', hv⟩ := hv
                          have q1 := rsub32 he
                          have q2 := rsub32 hg'
                          have q3 := rmul32 hv
                          clear he hg'
                          have q0 := radd32 hadd
                          have ce := hr.bcell (k * W + i) (by omega)
                          have fe := hr.bfree (k * W + i)
                          have RR := hr.setBuf (k * W + i) r
                          have OO := ho.setCell (p := ⟨bb, k * W + i, none⟩) (.inr rfl) (.float .f32 r)
                          clear hv hadd
                          go_wp2
                          go_meet
                          exact ⟨RR, OO⟩
                        · have hin' : decide ((i : Int) < ((W * H - k * W : Nat) : Int)) = false := by simpa using hin
                          go_wp2
                          go_meet
                          exact ⟨hr, ho⟩
              case rest =>
                clear hr ho
                obtain ⟨hr, ho⟩ := hcut
                go_upto_if 353 with (go_at_call 40; refine (clamp_any _ _ _ (by omega) (by omega) (by omega) (by omega)).mono ?_; rintro e w' ⟨rfl, rfl⟩)
                obtain ⟨i, hi, hiW, hbc⟩ := bump_cases HB5.out (Nat.le_of_lt hn)
                rw [hi]
                clear hi HB5
                rcases hbc with ⟨hin, v', r, hv, hadd, rfl⟩ | ⟨hin, rfl⟩
                · have hin' : decide ((i : Int) < ((W * H - k * W : Nat) : Int)) = true := by simpa using hin
                  have q1 := rmul32 hv
                  have q0 := radd32 hadd
                  have ce := hr.bcell (k * W + i) (by omega)
                  have fe := hr.bfree (k * W + i)
                  have RR := hr.setBuf (k * W + i) r
                  have OO := ho.setCell (p := ⟨bb, k * W + i, none⟩) (.inr rfl) (.float .f32 r)
                  clear hv hadd
                  go_wp2
                  go_meet
                  exact ⟨RR, OO⟩
                · have hin' : decide ((i : Int) < ((W * H - k * W : Nat) : Int)) = false := by simpa using hin
                  go_wp2
                  go_meet
                  exact ⟨hr, ho⟩
        case rest =>
          obtain ⟨hr2, ho2⟩ := hcut
          go_wp2
          have h1 := HREST.out
          have h2 := HC.out
          rw [show c = (zM - ((k : Int) + 1)).toNat by omega] at h1
          refine ⟨inv_mk _ ((k : Int) + 1) xN b1 (by kernel_rfl) rfl rfl (by omega) (by omega) h1 hr2 ho2, ?_⟩
          show (zM - ((k : Int) + 1)).toNat < (zM - (k : Int)).toNat
          omega
  · have hlt' : decide (y < zM) = false := by simpa using hlt
    have hz : (zM - y).toNat = 0 := by omega
    have hrow := HR.out
    rw [hz] at hrow
    unfold rows at hrow
    cases hrow
    clear HR hz
    go_wp2
    exact hexit _ _ hr ho rfl
end Go.Proofs.Ytmgcbodlolnheaa
