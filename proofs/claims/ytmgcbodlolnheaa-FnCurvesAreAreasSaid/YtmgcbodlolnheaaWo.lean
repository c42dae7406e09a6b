/- The walks of Near and of Area's inner function. -/
import Derived.Test.YtmgcbodlolnheaaWn
namespace Go.Proofs.Ytmgcbodlolnheaa
open Go.RowKit

theorem rmax64 {x y r : Nat} (h : max64 x y = some r) (ts : Array TypeId) (t : TypeId) (w : World) : (Builtin.max_ ts t #[.float .f64 x, .float .f64 y]).run Try.prog w = .ok (.float .f64 r) w := by
  unfold max64 at h
  simp only [Builtin.max_, Builtin.max2, List.foldlM]
  split at h
  · cases h
  · rename_i ho; cases h; simp [ho]
  · rename_i ho; cases h; simp [ho]
  · rename_i ho; cases h; simp [ho]
theorem rmin64 {x y r : Nat} (h : min64 x y = some r) (ts : Array TypeId) (t : TypeId) (w : World) : (Builtin.min_ ts t #[.float .f64 x, .float .f64 y]).run Try.prog w = .ok (.float .f64 r) w := by
  unfold min64 at h
  simp only [Builtin.min_, Builtin.min2, List.foldlM]
  split at h
  · cases h
  · rename_i ho; cases h; simp [ho]
  · rename_i ho; cases h; simp [ho]
  · rename_i ho; cases h; simp [ho]

theorem negRun64 (x : Nat) (w : World) : (Op.unary .neg (.float .f64 x)).run Try.prog w = .ok (.float .f64 (Op.negFloat .f64 x)) w := rfl

set_option maxHeartbeats 400000 in
theorem near16 (b : Int) (area far : Nat) (ok : Bool) (w : World) (h : nearB b area far = some ok) :
    Calls Try.prog 16 #[.int .u8 b, .float .f64 area, .float .f64 far] w fun e w' => e = .returned (.bool ok) ∧ w = w' := by
  simp only [nearB, Option.bind_eq_some_iff, Option.some.injEq] at h
  obtain ⟨m, h1, m1, h2, p, h3, d, h4, e, h5, h6⟩ := h
  unfold neg64 at h1 h5
  unfold d1 at h2
  unfold d255 at h3
  unfold of64 at h4
  have t1 := rmax64 h1
  have t2 := rmin64 h2
  have t3 := rmul64 h3
  have t4 := rsub64 h4
  have t5 := rmax64 h5
  unfold le64 at h6
  have H6 := Lib.hid h6
  have hneg := negRun64
  clear h1 h2 h3 h4 h5 h6
  go_enter Try.func16, Try.ntmps16
  go_wp2
  go_ret
  exact ⟨ret_bool H6.out, rfl⟩

set_option maxHeartbeats 400000 in
theorem at30 (eb sb : Nat) (x0 y0 : Int) (slope y r : Nat) (w : World) (h : atP x0 y0 slope y = some r)
    (q0 : w.cell? ⟨eb, 0, none⟩ = some (.int .i64 x0)) (q1 : w.cell? ⟨eb, 1, none⟩ = some (.int .i64 y0)) (q2 : w.cell? ⟨sb, 0, none⟩ = some (.float .f64 slope)) :
    Calls Try.prog 30 #[.float .f64 y, .pointer (some ⟨eb, 0, none⟩), .pointer (some ⟨sb, 0, none⟩)] w fun e w' => e = .returned (.float .f64 r) ∧ w = w' := by
  simp only [atP, Option.bind_eq_some_iff] at h
  obtain ⟨t, h1, p, h2, h3⟩ := h
  unfold of64 at h1 h3
  have t1 := rsub64 h1
  have t2 := rmul64 h2
  have t3 := radd64 h3
  clear h1 h2 h3
  go_enter Try.func30, Try.ntmps30
  go_wp2
  go_ret
  exact ⟨rfl, rfl⟩
end Go.Proofs.Ytmgcbodlolnheaa
