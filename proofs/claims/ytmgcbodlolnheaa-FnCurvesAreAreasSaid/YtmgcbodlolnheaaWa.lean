/- The walks of the small functions: floors, least and greatest, clamp, lerp, devSquared, the square root, at, MoveTo. -/
import Derived.Test.YtmgcbodlolnheaaRows
import Derived.Test.YtmgcbodlolnheaaModel
import Derived.WalkKit
import Derived.WalkSpells
import Derived.WalkLawsBesides
namespace Go.Proofs.Ytmgcbodlolnheaa
open Go.RowKit

theorem frun {op : BinOp} {k : FloatKind} {x y r : Nat} (h : floatBits op k x y = some r) (t : TypeId) (w : World) :
    (binOp op t (.float k x) (.float k y)).run Try.prog w = .ok (.float k r) w := run_float_arith w op t k x y r h
@[go_sem] theorem run_store_float {P : Program} (w : World) (a : Addr) (k : FloatKind) (n : Nat) (m : Mode) : (store a (.float k n) m).run P w = stored P w a (.float k n) m := run_store P w a _ m rfl
theorem radd32 {x y r : Nat} (h : add32 x y = some r) (t : TypeId) (w : World) : (binOp .add t (.float .f32 x) (.float .f32 y)).run Try.prog w = .ok (.float .f32 r) w := frun h t w
theorem rsub32 {x y r : Nat} (h : sub32 x y = some r) (t : TypeId) (w : World) : (binOp .sub t (.float .f32 x) (.float .f32 y)).run Try.prog w = .ok (.float .f32 r) w := frun h t w
theorem rmul32 {x y r : Nat} (h : mul32 x y = some r) (t : TypeId) (w : World) : (binOp .mul t (.float .f32 x) (.float .f32 y)).run Try.prog w = .ok (.float .f32 r) w := frun h t w
theorem rdiv32 {x y r : Nat} (h : div32 x y = some r) (t : TypeId) (w : World) : (binOp .quo t (.float .f32 x) (.float .f32 y)).run Try.prog w = .ok (.float .f32 r) w := frun h t w
theorem radd64 {x y r : Nat} (h : add64 x y = some r) (t : TypeId) (w : World) : (binOp .add t (.float .f64 x) (.float .f64 y)).run Try.prog w = .ok (.float .f64 r) w := frun h t w
theorem rsub64 {x y r : Nat} (h : sub64 x y = some r) (t : TypeId) (w : World) : (binOp .sub t (.float .f64 x) (.float .f64 y)).run Try.prog w = .ok (.float .f64 r) w := frun h t w
theorem rmul64 {x y r : Nat} (h : mul64 x y = some r) (t : TypeId) (w : World) : (binOp .mul t (.float .f64 x) (.float .f64 y)).run Try.prog w = .ok (.float .f64 r) w := frun h t w
theorem rdiv64 {x y r : Nat} (h : div64 x y = some r) (t : TypeId) (w : World) : (binOp .quo t (.float .f64 x) (.float .f64 y)).run Try.prog w = .ok (.float .f64 r) w := frun h t w

theorem ret_int {k : IntKind} {a b : Int} (h : a = b) : Ending.returned (.int k a) = .returned (.int k b) := by rw [h]

set_option maxHeartbeats 400000 in
theorem clamp_any (i b : Int) (w : World) (hi : -2147483648 ≤ i) (hi2 : i ≤ 2147483647) (hb : 0 ≤ b) (hb2 : b ≤ 2147483647) :
    Calls Try.prog 40 #[.int .i32 i, .int .i32 b] w fun e w' => e = .returned (.int .u64 (clampZ i b)) ∧ w = w' := by
  go_enter Try.func40, Try.ntmps40
  go_wp2
  · rename_i h
    go_ret; exact ⟨ret_int (by unfold clampZ; rw [if_pos h]), rfl⟩
  · rename_i h1 _ _ h2
    go_ret; exact ⟨ret_int (by unfold clampZ; rw [if_neg (by omega), if_pos h2]), rfl⟩
  · rename_i h1 h2
    go_ret; exact ⟨ret_int (by unfold clampZ; rw [if_neg (by omega), if_neg (by omega)]), rfl⟩

theorem lerp1_some {t p q c : Nat} (h : lerp1 t p q = some c) : ∃ a b, sub32 q p = some a ∧ mul32 t a = some b ∧ add32 p b = some c := by
  simpa [lerp1, Option.bind_eq_some_iff] using h

set_option maxHeartbeats 400000 in
theorem lerp_any (t px py qx qy c f : Nat) (w : World) (hx : lerp1 t px qx = some c) (hy : lerp1 t py qy = some f) :
    Calls Try.prog 35 #[.float .f32 t, .float .f32 px, .float .f32 py, .float .f32 qx, .float .f32 qy] w fun e' w' => e' = .returned (.tuple #[.float .f32 c, .float .f32 f]) ∧ w = w' := by
  obtain ⟨a, b, h1, h2, h3⟩ := lerp1_some hx
  obtain ⟨d, e, h4, h5, h6⟩ := lerp1_some hy
  have r1 := rsub32 h1
  have r2 := rmul32 h2
  have r3 := radd32 h3
  have r4 := rsub32 h4
  have r5 := rmul32 h5
  have r6 := radd32 h6
  clear h1 h2 h3 h4 h5 h6 hx hy
  go_enter Try.func35, Try.ntmps35
  go_wp2
  go_ret2
  exact ⟨rfl, rfl⟩

theorem dev_some {a b c r : Nat} (h : dev a b c = some r) : ∃ e g, mul32 1073741824 b = some e ∧ sub32 a e = some g ∧ add32 g c = some r := by
  simpa [dev, Option.bind_eq_some_iff] using h

set_option maxHeartbeats 400000 in
theorem devSq_any (ax ay bx bY cx cy r : Nat) (w : World) (h : devSq ax ay bx bY cx cy = some r) :
    Calls Try.prog 33 #[.float .f32 ax, .float .f32 ay, .float .f32 bx, .float .f32 bY, .float .f32 cx, .float .f32 cy] w fun e' w' => e' = .returned (.float .f32 r) ∧ w = w' := by
  simp only [devSq, Option.bind_eq_some_iff] at h
  obtain ⟨x, hx, y, hy, xx, hxx, yy, hyy, hr⟩ := h
  obtain ⟨e1, g1, h1, h2, h3⟩ := dev_some hx
  obtain ⟨e2, g2, h4, h5, h6⟩ := dev_some hy
  have r1 := rmul32 h1
  have r2 := rsub32 h2
  have r3 := radd32 h3
  have r4 := rmul32 h4
  have r5 := rsub32 h5
  have r6 := radd32 h6
  have r7 := rmul32 hxx
  have r8 := rmul32 hyy
  have r9 := radd32 hr
  clear h1 h2 h3 h4 h5 h6 hx hy hxx hyy hr
  go_enter Try.func33, Try.ntmps33
  go_wp2
  go_ret
  exact ⟨rfl, rfl⟩

theorem whole_some {way : Ieee.Toward} {x : Nat} {n : Int} (h : wholeI way x = some n) :
    ∃ y, floatToFloatBits .f32 x .f64 = some y ∧ (FloatKind.f64.decode y).isNaN = false ∧
      floatToIntVal .f64 (FloatKind.f64.encode ((FloatKind.f64.decode y).integral way)) .i32 = some n ∧ -1000000 ≤ n ∧ n ≤ 1000000 := by
  unfold wholeI at h
  split at h
  · cases h
  · rename_i y hy
    split at h
    · cases h
    · rename_i hn
      split at h
      · cases h
      · rename_i k hk
        unfold small at h
        split at h
        · rename_i hb
          cases h
          exact ⟨y, hy, by simpa using hn, hk, hb.1, hb.2⟩
        · cases h

theorem run_arch (f : FuncId) (fn : Func) (way : Ieee.Toward) (name : String) (hf : Try.prog.funcs[f]? = some fn) (hname : (fn.name == "runtime.NumGoroutine") = false)
    (hb : fn.body.isNone = true) (hn : Extern.findNext fn = none) (he : Extern.find fn = some (Extern.MathFloor.toIntegral name way)) (y : Nat) (h : (FloatKind.f64.decode y).isNaN = false) (w : World) :
    (callFunc f #[.float .f64 y]).run Try.prog w = .ok (.value (.float .f64 (FloatKind.f64.encode ((FloatKind.f64.decode y).integral way)))) w := by
  rw [run_callFunc_extern hf hname hb hn he]
  have e : Extern.MathFloor.toIntegral name way #[.float .f64 y] = pure (.float .f64 (FloatKind.f64.encode ((FloatKind.f64.decode y).integral way))) := by
    show (match FloatKind.f64.decode y with
      | .nan s t =>
        if FloatKind.f64.format.quiet t = t then pure (Value.float .f64 y) else do
        let kept ← choose (.extern "math.Floor,Ceil,Trunc,RoundToEven.signallingNaN kept" 2)
        pure (Value.float .f64 (if kept == 1 then y else FloatKind.f64.encode (.nan s (FloatKind.f64.format.quiet t))))
      | d => pure (Value.float .f64 (FloatKind.f64.encode (d.integral way)))) = _
    cases hd : FloatKind.f64.decode y with
    | nan s t => rw [hd] at h; cases h
    | infinity s => rfl
    | number s m e => rfl
  rw [e]; rfl

theorem run_archFloor (y : Nat) (h : (FloatKind.f64.decode y).isNaN = false) (w : World) :
    (callFunc 48 #[.float .f64 y]).run Try.prog w = .ok (.value (.float .f64 (FloatKind.f64.encode ((FloatKind.f64.decode y).integral .down)))) w :=
  run_arch 48 Try.f48 .down "math.archFloor" Try.func48 (by kernel_rfl) (by kernel_rfl) (by kernel_rfl) (by kernel_rfl) y h w
theorem run_archCeil (y : Nat) (h : (FloatKind.f64.decode y).isNaN = false) (w : World) :
    (callFunc 50 #[.float .f64 y]).run Try.prog w = .ok (.value (.float .f64 (FloatKind.f64.encode ((FloatKind.f64.decode y).integral .up)))) w :=
  run_arch 50 Try.f50 .up "math.archCeil" Try.func50 (by kernel_rfl) (by kernel_rfl) (by kernel_rfl) (by kernel_rfl) y h w

set_option maxHeartbeats 400000 in
theorem floor_any (x : Nat) (n : Int) (w : World) (h : floorI x = some n) :
    Calls Try.prog 36 #[.float .f32 x] w fun e' w' => e' = .returned (.int .i32 n) ∧ w = w' := by
  obtain ⟨y, h1, h2, h3, _, _⟩ := whole_some h
  have r1 := fun w => run_convert_float_float (P := Try.prog) w 56 37 .f32 .f64 x y (by kernel_rfl) (by kernel_rfl) h1
  have k1 := run_archFloor y h2
  generalize FloatKind.f64.encode ((FloatKind.f64.decode y).integral .down) = z at h3 k1
  have r3 := fun w => run_convert_float_int (P := Try.prog) w 37 21 .f64 .i32 z n (by kernel_rfl) (by kernel_rfl) h3
  clear h1 h2 h3 h
  go_enter Try.func36, Try.ntmps36
  go_wp2
  go_ret
  exact ⟨rfl, rfl⟩

set_option maxHeartbeats 400000 in
theorem ceil_any (x : Nat) (n : Int) (w : World) (h : ceilI x = some n) :
    Calls Try.prog 37 #[.float .f32 x] w fun e' w' => e' = .returned (.int .i32 n) ∧ w = w' := by
  obtain ⟨y, h1, h2, h3, _, _⟩ := whole_some h
  have r1 := fun w => run_convert_float_float (P := Try.prog) w 56 37 .f32 .f64 x y (by kernel_rfl) (by kernel_rfl) h1
  have k1 := run_archCeil y h2
  generalize FloatKind.f64.encode ((FloatKind.f64.decode y).integral .up) = z at h3 k1
  have r3 := fun w => run_convert_float_int (P := Try.prog) w 37 21 .f64 .i32 z n (by kernel_rfl) (by kernel_rfl) h3
  clear h1 h2 h3 h
  go_enter Try.func37, Try.ntmps37
  go_wp2
  go_ret
  exact ⟨rfl, rfl⟩

set_option maxHeartbeats 400000 in
theorem min_any (x y : Nat) (w : World) :
    Calls Try.prog 38 #[.float .f32 x, .float .f32 y] w fun e' w' => e' = .returned (.float .f32 (if lt32 x y then x else y)) ∧ w = w' := by
  cases h : lt32 x y
  all_goals
    have hh : (FloatKind.f32.format.order x y == some .lt) = _ := h
    go_enter Try.func38, Try.ntmps38
    go_wp2
    go_ret
    exact ⟨rfl, rfl⟩

set_option maxHeartbeats 400000 in
theorem max_any (x y : Nat) (w : World) :
    Calls Try.prog 39 #[.float .f32 x, .float .f32 y] w fun e' w' => e' = .returned (.float .f32 (if gt32 x y then x else y)) ∧ w = w' := by
  cases h : gt32 x y
  all_goals
    have hh : (FloatKind.f32.format.order x y == some .gt) = _ := h
    go_enter Try.func39, Try.ntmps39
    go_wp2
    go_ret
    exact ⟨rfl, rfl⟩

theorem run_sqrt (x r : Nat) (h : sqrt64 x = some r) (w : World) : (callFunc 45 #[.float .f64 x]).run Try.prog w = .ok (.value (.float .f64 r)) w := by
  rw [run_callFunc_extern (fn := Try.f45) (e := Extern.MathSqrt.sqrt) Try.func45 (by kernel_rfl) (by kernel_rfl) (by kernel_rfl) (by kernel_rfl)]
  have hs : FloatKind.f64.format.sqrt x = some r := h
  have e : Extern.MathSqrt.sqrt #[.float .f64 x] = pure (.float .f64 r) := by
    show (match FloatKind.f64.format.sqrt x with | some r => pure (Value.float .f64 r) | none => do pure (Value.float .f64 (← choose (.nanBits .f64 x x)))) = _
    rw [hs]
  rw [e]; rfl

set_option maxHeartbeats 400000 in
theorem sqrt_any (x r : Nat) (w : World) (h : sqrt64 x = some r) :
    Calls Try.prog 34 #[.float .f64 x] w fun e' w' => e' = .returned (.float .f64 r) ∧ w = w' := by
  have k := run_sqrt x r h
  clear h
  go_enter Try.func34, Try.ntmps34
  go_wp2
  go_ret
  exact ⟨rfl, rfl⟩
end Go.Proofs.Ytmgcbodlolnheaa
