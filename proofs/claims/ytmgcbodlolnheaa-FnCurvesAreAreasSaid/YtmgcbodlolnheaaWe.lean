/- The walks of LineTo, ClosePath, MoveTo, QuadTo. -/
import Derived.Test.YtmgcbodlolnheaaWc
import Derived.Deep.RegionHeld3
import Derived.Deep.QuietTactic
import Derived.BigQuiet
import Derived.Deep.DeepCutAuto
import Derived.Lib.Hide
namespace Go.Proofs.Ytmgcbodlolnheaa
open Go.RowKit

theorem Ras.cell5 {w : World} {zb bb W H fx fy px py : Nat} {b : Nat → Nat} (h : Ras w zb bb W H fx fy px py b) : w.cell? ⟨zb, 5, none⟩ = some (.float .f32 fx) := by
  obtain ⟨u, hc⟩ := h.cell; exact hc 5
theorem Ras.cell6 {w : World} {zb bb W H fx fy px py : Nat} {b : Nat → Nat} (h : Ras w zb bb W H fx fy px py b) : w.cell? ⟨zb, 6, none⟩ = some (.float .f32 fy) := by
  obtain ⟨u, hc⟩ := h.cell; exact hc 6

set_option maxHeartbeats 400000 in
theorem lineTo24 (zb bb W H fx fy px py qx qy : Nat) (b b' : Nat → Nat) (w : World) (hW : 1 ≤ W) (hW2 : W ≤ 64) (hH : H ≤ 64)
    (hras : Ras w zb bb W H fx fy px py b) (hl : lineTo W H px py qx qy b = some b') :
    Calls Try.prog 24 #[.pointer (some ⟨zb, 0, none⟩), .float .f32 qx, .float .f32 qy] w fun e w' => e = .returned (.tuple #[]) ∧ Ras w' zb bb W H fx fy qx qy b' ∧ Only (Duo zb bb) w w' := by
  obtain ⟨u, hc⟩ := hras.cell
  have c2 : w.cell? ⟨zb, 2, none⟩ = some (.bool true) := hc 2
  clear hc
  go_enter Try.func24, Try.ntmps24
  go_wp2_with (go_at_call 31; refine (lineTo_any zb bb W H fx fy px py qx qy b b' _ hW hW2 hH hras hl).mono ?_; rintro e w' ⟨rfl, hr, ho⟩)
  go_end0
  exact ⟨rfl, hr, ho⟩

set_option maxHeartbeats 400000 in
theorem close27 (zb bb W H fx fy px py : Nat) (b b' : Nat → Nat) (w : World) (hW : 1 ≤ W) (hW2 : W ≤ 64) (hH : H ≤ 64)
    (hras : Ras w zb bb W H fx fy px py b) (hl : lineTo W H px py fx fy b = some b') :
    Calls Try.prog 27 #[.pointer (some ⟨zb, 0, none⟩)] w fun e w' => e = .returned (.tuple #[]) ∧ Ras w' zb bb W H fx fy fx fy b' ∧ Only (Duo zb bb) w w' := by
  obtain ⟨u, hc⟩ := hras.cell
  have c5 : w.cell? ⟨zb, 5, none⟩ = some (.float .f32 fx) := hc 5
  have c6 : w.cell? ⟨zb, 6, none⟩ = some (.float .f32 fy) := hc 6
  clear hc
  go_enter Try.func27, Try.ntmps27
  go_wp2_with fail
  go_region_held3 (fun w' => w'.cell? ⟨zb, 5, none⟩ = some (.float .f32 fx) ∧ w'.cell? ⟨zb, 6, none⟩ = some (.float .f32 fy)) (first | go_keep | exact ⟨hr.cell5, hr.cell6⟩)
    (first | (go_at_call 24; refine (lineTo24 zb bb W H fx fy px py fx fy b b' _ hW hW2 hH (hras.drew) hl).mono ?_; rintro e w' ⟨rfl, hr, ho⟩))
  all_goals
    go_wp2
    go_end0
    exact ⟨rfl, hr, (Only.refl _ _).drew.trans ho⟩

set_option maxHeartbeats 400000 in
theorem moveTo22 (zb bb W H fx fy px py qx qy : Nat) (b : Nat → Nat) (w : World)
    (hras : Ras w zb bb W H fx fy px py b) :
    Calls Try.prog 22 #[.pointer (some ⟨zb, 0, none⟩), .float .f32 qx, .float .f32 qy] w fun e w' => e = .returned (.tuple #[]) ∧ Ras w' zb bb W H qx qy qx qy b ∧ Only (Duo zb bb) w w' := by
  obtain ⟨u, hz⟩ := hras.z
  have hf := hras.free
  have hc : ∀ j, w.cell? ⟨zb, j, none⟩ = (rasCells bb (W * H) u W H fx fy px py)[j]? := fun j => by rw [cell_of_row w zb j _ 59 (0, 0) hz]; simp
  have c5 : w.cell? ⟨zb, 5, none⟩ = some (.float .f32 fx) := hc 5
  have c6 : w.cell? ⟨zb, 6, none⟩ = some (.float .f32 fy) := hc 6
  have c7 : w.cell? ⟨zb, 7, none⟩ = some (.float .f32 px) := hc 7
  have c8 : w.cell? ⟨zb, 8, none⟩ = some (.float .f32 py) := hc 8
  have f5 := hf 5
  have f6 := hf 6
  have f7 := hf 7
  have f8 := hf 8
  have RR : Ras ((((w.setCell ⟨zb, 5, none⟩ (.float .f32 qx)).setCell ⟨zb, 6, none⟩ (.float .f32 qy)).setCell ⟨zb, 7, none⟩ (.float .f32 qx)).setCell ⟨zb, 8, none⟩ (.float .f32 qy)) zb bb W H qx qy qx qy b := by
    refine ⟨⟨u, ?_⟩, ?_, hras.ne⟩
    · rw [setCell_row _ zb _ 59 (setCell_row _ zb _ 59 (setCell_row _ zb _ 59 (setCell_row w zb _ 59 hz 5 _) 6 _) 7 _) 8]; rfl
    · rw [Below.heap_setCell _ _ _ _ (Ne.symm hras.ne), Below.heap_setCell _ _ _ _ (Ne.symm hras.ne), Below.heap_setCell _ _ _ _ (Ne.symm hras.ne), Below.heap_setCell _ _ _ _ (Ne.symm hras.ne)]; exact hras.buf
  have OO : Only (Duo zb bb) w ((((w.setCell ⟨zb, 5, none⟩ (.float .f32 qx)).setCell ⟨zb, 6, none⟩ (.float .f32 qy)).setCell ⟨zb, 7, none⟩ (.float .f32 qx)).setCell ⟨zb, 8, none⟩ (.float .f32 qy)) :=
    ((((Only.refl _ w).setCell (p := ⟨zb, 5, none⟩) (.inl rfl) _).setCell (p := ⟨zb, 6, none⟩) (.inl rfl) _).setCell (p := ⟨zb, 7, none⟩) (.inl rfl) _).setCell (p := ⟨zb, 8, none⟩) (.inl rfl) _
  clear hc hz hf
  go_enter Try.func22, Try.ntmps22
  go_wp2
  go_end0
  exact ⟨rfl, RR, OO⟩

def QuadRel (w : World) (zb bb W H fx fy ax ay bx bY cx cy nInv : Nat) (n : Int) (r : Nat × Nat × (Nat → Nat)) (s14 s16 : Value) (wx : World) : Prop :=
  ∃ (t px py : Nat) (bq : Nat → Nat) (i : Nat), s14 = .float .f32 t ∧ s16 = .int .i64 i ∧ (i : Int) ≤ n - 1 ∧
    Hid (quadLoop W H ax ay bx bY cx cy nInv (n - 1 - i).toNat t px py bq = some r) ∧ Ras wx zb bb W H fx fy px py bq ∧ Only (Duo zb bb) w wx

theorem bezier_some {t a b c r : Nat} (h : bezier t a b c = some r) : ∃ p q, lerp1 t a b = some p ∧ lerp1 t b c = some q ∧ lerp1 t p q = some r := by
  simpa [bezier, Option.bind_eq_some_iff] using h

set_option maxRecDepth 100000 in
set_option maxHeartbeats 2000000 in
theorem quadTo25 (zb bb W H fx fy px py bx bY cx cy : Nat) (b b' : Nat → Nat) (w : World) (hW : 1 ≤ W) (hW2 : W ≤ 64) (hH : H ≤ 64)
    (hras : Ras w zb bb W H fx fy px py b) (hl : quadTo W H px py bx bY cx cy b = some b') :
    Calls Try.prog 25 #[.pointer (some ⟨zb, 0, none⟩), .float .f32 bx, .float .f32 bY, .float .f32 cx, .float .f32 cy] w fun e w' =>
      e = .returned (.tuple #[]) ∧ Ras w' zb bb W H fx fy cx cy b' ∧ Only (Duo zb bb) w w' := by
  obtain ⟨u, hc⟩ := hras.cell
  have c7 : w.cell? ⟨zb, 7, none⟩ = some (.float .f32 px) := hc 7
  have c8 : w.cell? ⟨zb, 8, none⟩ = some (.float .f32 py) := hc 8
  clear hc
  simp only [quadTo, Option.bind_eq_some_iff] at hl
  obtain ⟨dq, hdq, hl⟩ := hl
  go_enter Try.func25, Try.ntmps25
  go_wp2_with fail
  go_quiet (fail)
  go_upto_if 37 with (go_at_call 33; refine (devSq_any _ _ _ _ _ _ _ _ hdq).mono ?_; rintro e w' ⟨rfl, rfl⟩)
  have R0 := hras.drewN nq
  have O0 : Only (Duo zb bb) w (w.drewN nq) := (Only.refl _ w).drewN nq
  generalize w.drewN nq = ww at R0 O0 ⊢
  unfold ge32 w333 at hl
  generalize (FloatKind.f32.format.order dq 1051361018 == some .gt || FloatKind.f32.format.order dq 1051361018 == some .eq) = B at hl ⊢
  clear hras c7 c8
  cases B
  case false =>
    simp only [Bool.false_eq_true, if_false] at hl
    have HL := Lib.hid hl
    clear hl
    go_wp2_with (go_at_call 24; refine (lineTo24 zb bb W H fx fy px py cx cy b b' _ hW hW2 hH R0 HL.out).mono ?_; rintro e w' ⟨rfl, hr, ho⟩)
    go_end0
    exact ⟨rfl, hr, O0.trans ho⟩
  case true =>
    simp only [if_true, Option.bind_eq_some_iff] at hl
    obtain ⟨n, hn, nInv, hnInv, r, hr, hl⟩ := hl
    simp only [segments, Option.bind_eq_some_iff] at hn
    obtain ⟨e1, he1, g1, hg1, r1, hr1, q1, hq1, k1, hk1, hn⟩ := hn
    have hkb : 0 ≤ k1 ∧ k1 ≤ 1000 ∧ n = 1 + k1 := by
      split at hn
      · rename_i hb; cases hn; exact ⟨hb.1, hb.2, rfl⟩
      · cases hn
    obtain ⟨hk0, hk1000, rfl⟩ := hkb
    have t1 := fun w => run_convert_float_float (P := Try.prog) w 56 37 .f32 .f64 dq e1 (by kernel_rfl) (by kernel_rfl) he1
    unfold d3 at hg1
    have t2 := rmul64 hg1
    have t3 := fun w => run_convert_float_int (P := Try.prog) w 37 3 .f64 .i64 q1 k1 (by kernel_rfl) (by kernel_rfl) hk1
    unfold w1 of32 at hnInv
    have t4 := rdiv32 hnInv
    have HL := Lib.hid hl
    have HR := Lib.hid hr
    clear hl hr he1 hg1 hn hk1 hnInv
    go_wp2_with (first | (go_at_call 34; refine (sqrt_any _ _ _ hr1).mono ?_; rintro e w' ⟨rfl, rfl⟩) | (go_at_call 34; refine (sqrt_any _ _ _ hq1).mono ?_; rintro e w' ⟨rfl, rfl⟩))
    clear t1 t2 t3 t4 hr1 hq1
    go_loopw [14, 16] (fun s14 s16 wx => QuadRel w zb bb W H fx fy px py bx bY cx cy nInv (1 + k1) r s14 s16 wx) (fun _ s16 _ => (1 + k1 - 1 - intOf s16).toNat)
    case atStart => exact ⟨0, px, py, b, 0, rfl, rfl, by omega, by simpa using HR, R0, O0⟩
    case round =>
      obtain ⟨t, qx, qy, bq, i, rfl, rfl, hi, HQ, hr, ho⟩ := hrel
      clear HR R0 O0
      by_cases hlt : (i : Int) < k1
      · have hlt' : decide ((i : Int) < 1 + k1 - 1) = true := by simp; omega
        have hlt'' : decide ((i : Int) < k1) = true := by simpa using hlt
        have hq := HQ.out
        obtain ⟨c, hc⟩ : ∃ c, (1 + k1 - 1 - (i : Int)).toNat = c + 1 := ⟨(1 + k1 - 1 - (i : Int)).toNat - 1, by omega⟩
        rw [hc] at hq
        unfold quadLoop at hq
        simp only [Option.bind_eq_some_iff] at hq
        obtain ⟨t', ht', ex, hex, ey, hey, b2, hb2, hq⟩ := hq
        rw [show c = (1 + k1 - 1 - ((i + 1 : Nat) : Int)).toNat by omega] at hq
        obtain ⟨ax1, ax2, hx1, hx2, hx3⟩ := bezier_some hex
        obtain ⟨ay1, ay2, hy1, hy2, hy3⟩ := bezier_some hey
        have t1 := radd32 ht'
        have HQ2 := Lib.hid hq
        have HX1 := Lib.hid hx1
        have HX2 := Lib.hid hx2
        have HX3 := Lib.hid hx3
        have HY1 := Lib.hid hy1
        have HY2 := Lib.hid hy2
        have HY3 := Lib.hid hy3
        have HB2 := Lib.hid hb2
        clear HQ hq hc ht' hex hey hb2 hx1 hx2 hx3 hy1 hy2 hy3
        go_wp2_with fail
        refine (lerp_any _ _ _ _ _ _ _ _ HX1.out HY1.out).mono ?_
        rintro e w' ⟨rfl, rfl⟩
        go_wp2_with fail
        refine (lerp_any _ _ _ _ _ _ _ _ HX2.out HY2.out).mono ?_
        rintro e w' ⟨rfl, rfl⟩
        go_wp2_with fail
        refine (lerp_any _ _ _ _ _ _ _ _ HX3.out HY3.out).mono ?_
        rintro e w' ⟨rfl, rfl⟩
        go_wp2_with fail
        refine (lineTo24 zb bb W H fx fy qx qy ex ey bq b2 _ hW hW2 hH hr HB2.out).mono ?_
        rintro e w' ⟨rfl, hr2, ho2⟩
        go_wp2
        go_roundw
        case rel => exact ⟨t', ex, ey, b2, i + 1, rfl, by go_num, by omega, HQ2, hr2, ho.trans ho2⟩
        case measure => simp [intOf]; omega
      · have hlt' : decide ((i : Int) < 1 + k1 - 1) = false := by simp; omega
        have hlt'' : decide ((i : Int) < k1) = false := by simpa using hlt
        have hq := HQ.out
        rw [show (1 + k1 - 1 - (i : Int)).toNat = 0 by omega] at hq
        unfold quadLoop at hq
        cases hq
        clear HQ
        go_wp2_with (go_at_call 24; refine (lineTo24 zb bb W H fx fy qx qy cx cy bq b' _ hW hW2 hH hr HL.out).mono ?_; rintro e w' ⟨rfl, hr2, ho2⟩)
        go_end0
        exact ⟨rfl, hr2, ho.trans ho2⟩
end Go.Proofs.Ytmgcbodlolnheaa
