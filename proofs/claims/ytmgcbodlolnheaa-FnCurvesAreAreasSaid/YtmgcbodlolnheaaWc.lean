/- The walk of floatingLineTo. -/
import Derived.Test.YtmgcbodlolnheaaWd
namespace Go.Proofs.Ytmgcbodlolnheaa
open Go.RowKit

/-- Behind the swap. -/
def Turned (w : World) (zb bb W H fx fy qx qy : Nat) (b b' : Nat → Nat) (s1 s2 s6 s7 s8 : Value) (wx : World) : Prop :=
  ∃ dir ax ay bx bY : Nat, s1 = .float .f32 bx ∧ s2 = .float .f32 bY ∧ s6 = .float .f32 ax ∧ s7 = .float .f32 ay ∧ s8 = .float .f32 dir ∧
    lineDown W H dir ax ay bx bY b = some b' ∧ Ras wx zb bb W H fx fy qx qy b ∧ Only (Duo zb bb) w wx

set_option maxRecDepth 100000 in
set_option maxHeartbeats 1000000 in
theorem lineTo_any (zb bb W H fx fy px py qx qy : Nat) (b b' : Nat → Nat) (w : World) (hW : 1 ≤ W) (hW2 : W ≤ 64) (hH : H ≤ 64)
    (hras : Ras w zb bb W H fx fy px py b) (hl : lineTo W H px py qx qy b = some b') :
    Calls Try.prog 31 #[.pointer (some ⟨zb, 0, none⟩), .float .f32 qx, .float .f32 qy] w fun e w' => e = .returned (.tuple #[]) ∧ Ras w' zb bb W H fx fy qx qy b' ∧ Only (Duo zb bb) w w' := by
  obtain ⟨u, hc⟩ := hras.cell
  have hf := hras.free
  have c7 : w.cell? ⟨zb, 7, none⟩ = some (.float .f32 px) := hc 7
  have c8 : w.cell? ⟨zb, 8, none⟩ = some (.float .f32 py) := hc 8
  have f7 := hf 7
  have f8 := hf 8
  have R1 : ∀ n, Ras (((w.drewN n).setCell ⟨zb, 7, none⟩ (.float .f32 qx)).setCell ⟨zb, 8, none⟩ (.float .f32 qy)) zb bb W H fx fy qx qy b := fun n => (hras.drewN n).setPen qx qy
  have O1 : ∀ n, Only (Duo zb bb) w (((w.drewN n).setCell ⟨zb, 7, none⟩ (.float .f32 qx)).setCell ⟨zb, 8, none⟩ (.float .f32 qy)) := fun n =>
    (((Only.refl _ w).drewN n).setCell (p := ⟨zb, 7, none⟩) (.inl rfl) _).setCell (p := ⟨zb, 8, none⟩) (.inl rfl) _
  clear hc hf hras
  go_enter Try.func31, Try.ntmps31
  go_wp2
  go_quiet (fail)
  go_upto_if 61 with (fail)
  have R2 := R1 nq
  have O2 := O1 nq
  clear R1 O1 c7 c8 f7 f8
  generalize ((w.drewN nq).setCell ⟨zb, 7, none⟩ (.float .f32 qx)).setCell ⟨zb, 8, none⟩ (.float .f32 qy) = w1 at R2 O2 ⊢
  go_cut [1, 2, 6, 7, 8] from 59 to 65 (Turned w zb bb W H fx fy qx qy b b')
  case first =>
    unfold lineTo gt32 at hl
    generalize (FloatKind.f32.format.order py qy == some .gt) = B at hl ⊢
    cases B
    all_goals
      simp only [Bool.false_eq_true, if_false, if_true] at hl
      have HL := Lib.hid hl
      clear hl
      go_wp2
      go_meet
      exact ⟨_, _, _, _, _, rfl, rfl, rfl, rfl, rfl, HL.out, R2, O2⟩
  case rest =>
    obtain ⟨dir, ax, ay, bx, bY, rfl, rfl, rfl, rfl, rfl, hd, hr, ho⟩ := hcut
    clear R2 O2 hl
    unfold lineDown at hd
    rw [Option.bind_eq_some_iff] at hd
    obtain ⟨e, he, hd⟩ := hd
    have r1 := rsub32 he
    clear he
    go_upto_if 69 with (fail)
    unfold le32 wEps at hd
    generalize (FloatKind.f32.format.order e 897988541 == some .lt || FloatKind.f32.format.order e 897988541 == some .eq) = B at hd ⊢
    cases B
    case true =>
      simp only [if_true, Option.some.injEq] at hd
      subst hd
      go_wp2
      refine bodyPost_ret (results_none rfl _ _ _) rfl ?_
      exact ⟨rfl, hr, ho⟩
    case false =>
      simp only [Bool.false_eq_true, if_false, Option.bind_eq_some_iff] at hd
      obtain ⟨g, hg, m, hm, y, hy, yM, hyM, hd⟩ := hd
      have r2 := rsub32 hg
      have r3 := rdiv32 hm
      have HD := Lib.hid hd
      clear hg hm hd
      obtain ⟨u', hc⟩ := hr.cell
      have c3 : wc.cell? ⟨zb, 3, none⟩ = some (.int .i64 W) := hc 3
      have c4 : wc.cell? ⟨zb, 4, none⟩ = some (.int .i64 H) := hc 4
      clear hc
      go_upto_if 89 with (first | (go_at_call 36; refine (floor_any _ _ _ hy).mono ?_; rintro e w' ⟨rfl, rfl⟩) | (go_at_call 37; refine (ceil_any _ _ _ hyM).mono ?_; rintro e w' ⟨rfl, rfl⟩))
      go_cut [12] from 82 to 95 (fun s12 wx => s12 = .int .i32 (if yM > H then (H : Int) else yM) ∧ wx = wc)
      case first =>
        by_cases hlt : (H : Int) < yM
        · have hlt' : decide ((H : Int) < yM) = true := by simpa using hlt
          go_wp2
          go_meet
          exact ⟨by rw [if_pos (by simpa using hlt)], rfl⟩
        · have hlt' : decide ((H : Int) < yM) = false := by simpa using hlt
          go_wp2
          go_meet
          exact ⟨by rw [if_neg (by simpa using hlt)], rfl⟩
      case rest =>
        obtain ⟨rfl, rfl⟩ := hcut
        generalize hz : (if yM > H then (H : Int) else yM) = zM at HD ⊢
        have hzM : zM ≤ H := by rw [← hz]; split <;> omega
        obtain ⟨_, _, _, _, hyb1, hyb2⟩ := whole_some hy
        obtain ⟨_, _, _, _, hyMb1, hyMb2⟩ := whole_some hyM
        have hzM2 : -1000000 ≤ zM := by rw [← hz]; split <;> omega
        clear hz hy hyM
        go_wp2
        refine wp_loop (RowsInv w zb bb W H fx fy qx qy bx bY ax ay dir m b' zM) (rowsMu zM) ?_ ?_
        · exact inv_mk _ y ax b (by kernel_rfl) rfl rfl hyb1 hyb2 HD.out hr ho
        · rintro a wx ⟨f, hrel, rfl⟩
          refine rows_round w zb bb W H fx fy qx qy bx bY ax ay dir m b' zM _ hW hW2 hH hzM ?_ f wx hrel
          intro a wx hr2 ho2 hd2
          show bodyPost Try.prog Try.f31 (fun e w' => e = .returned (.tuple #[]) ∧ Ras w' zb bb W H fx fy qx qy b' ∧ Only (Duo zb bb) w w') .normal a wx
          exact bodyPost_end (v := .tuple #[]) (results_none rfl _ _ _) hd2 ⟨rfl, hr2, ho2⟩
end Go.Proofs.Ytmgcbodlolnheaa
