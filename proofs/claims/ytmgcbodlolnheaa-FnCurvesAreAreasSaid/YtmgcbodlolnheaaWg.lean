/- The walks that make a rasterizer. -/
import Derived.Test.YtmgcbodlolnheaaWf
namespace Go.Proofs.Ytmgcbodlolnheaa
open Go.RowKit

theorem Try.info56 : (Try.prog.info? 56).map (fun i => (i.zero, i.size, i.bytes)) = some (some (.float .f32 0), 1, 4) := by kernel_rfl
theorem Try.info70 : (Try.prog.info? 70).map (fun i => (i.zero, i.size, i.bytes)) = some (some (.int .u32 0), 1, 4) := by kernel_rfl
theorem Try.info5 : (Try.prog.info? 5).map (fun i => (i.zero, i.size, i.bytes)) = some (some (.int .u8 0), 1, 1) := by kernel_rfl

/-- A rasterizer's cells before its buffer is made. -/
def zCells (f u b : Value) (W H fx fy px py : Nat) : List Value :=
  [f, u, b, .int .i64 W, .int .i64 H, .float .f32 fx, .float .f32 fy, .float .f32 px, .float .f32 py, .int .i64 0]

theorem make70 (n : Nat) (hn : n ≤ 4096) (w : World) : (Instr.makeSlice 53 (.int .i64 n) (.int .i64 n)).run Try.prog w =
    .ok (.slice (some ⟨w.heap.size, 0, none⟩) n n) (w.alloc (.cells (madeCells #[.int .u32 0] n) 70)) := by
  obtain ⟨i, hi, hz0, hz1, hz2⟩ := info_parts Try.info70
  have := run_make (P := Try.prog) w 53 70 i (.int .u32 0) Try.underlying53 hi hz0 .i64 .i64 n n (by omega) (by omega) (by rw [hz2]; omega) (by omega)
  rw [this, hz1]
  simp [Value.cells]
theorem make56 (n : Nat) (hn : n ≤ 4096) (w : World) : (Instr.makeSlice 52 (.int .i64 n) (.int .i64 n)).run Try.prog w =
    .ok (.slice (some ⟨w.heap.size, 0, none⟩) n n) (w.alloc (.cells (madeCells #[.float .f32 0] n) 56)) := by
  obtain ⟨i, hi, hz0, hz1, hz2⟩ := info_parts Try.info56
  have := run_make (P := Try.prog) w 52 56 i (.float .f32 0) Try.underlying52 hi hz0 .i64 .i64 n n (by omega) (by omega) (by rw [hz2]; omega) (by omega)
  rw [this, hz1]
  simp [Value.cells]
theorem make5 (n : Nat) (hn : n ≤ 4096) (w : World) : (Instr.makeSlice 32 (.int .i64 n) (.int .i64 n)).run Try.prog w =
    .ok (.slice (some ⟨w.heap.size, 0, none⟩) n n) (w.alloc (.cells (madeCells #[.int .u8 0] n) 5)) := by
  obtain ⟨i, hi, hz0, hz1, hz2⟩ := info_parts Try.info5
  have := run_make (P := Try.prog) w 32 5 i (.int .u8 0) Try.underlying32 hi hz0 .i64 .i64 n n (by omega) (by omega) (by rw [hz2]; omega) (by omega)
  rw [this, hz1]
  simp [Value.cells]

set_option maxRecDepth 100000 in
set_option maxHeartbeats 1000000 in
theorem use_false (zb W H fx fy px py : Nat) (f b0 : Value) (w : World) (hW : 1 ≤ W) (hW2 : W ≤ 64) (hH1 : 1 ≤ H) (hH : H ≤ 64) (hb0 : ∃ x, b0 = .bool x)
    (hz : w.heap[zb]? = some (.cells (zCells f (.slice none 0 0) b0 W H fx fy px py).toArray 59 (0, 0))) :
    Calls Try.prog 21 #[.pointer (some ⟨zb, 0, none⟩), .bool false] w fun e w' => e = .returned (.tuple #[]) ∧
      (∃ u, w'.heap[zb]? = some (.cells (zCells f u (.bool false) W H fx fy px py).toArray 59 (0, 0))) ∧ Only (· = zb) w w' := by
  obtain ⟨x0, rfl⟩ := hb0
  have hc : ∀ j, w.cell? ⟨zb, j, none⟩ = (zCells f (.slice none 0 0) (.bool x0) W H fx fy px py)[j]? := fun j => by rw [cell_of_row w zb j _ 59 (0, 0) hz]; simp
  have hf : ∀ j, w.frozen? ⟨zb, j, none⟩ = false := fun j => frozen_of_row w zb j _ 59 hz
  have c1 : w.cell? ⟨zb, 1, none⟩ = some (.slice none 0 0) := hc 1
  have c2 : w.cell? ⟨zb, 2, none⟩ = some (.bool x0) := hc 2
  have c3 : w.cell? ⟨zb, 3, none⟩ = some (.int .i64 W) := hc 3
  have c4 : w.cell? ⟨zb, 4, none⟩ = some (.int .i64 H) := hc 4
  have f1 := hf 1
  have f2 := hf 2
  have hzb : zb < w.heap.size := (Array.getElem?_eq_some_iff.1 hz).1
  have hWH : (W : Int) * H ≤ 4096 := by
    have : W * H ≤ 64 * 64 := Nat.mul_le_mul hW2 hH
    exact_mod_cast this
  have hWH0 : 0 < (W : Int) * H := by
    have : 1 * 1 ≤ W * H := Nat.mul_le_mul hW hH1
    exact_mod_cast this
  have hmk := fun w => (Int.natCast_mul W H) ▸ make70 (W * H) (Nat.mul_le_mul hW2 hH) w
  clear hc hf
  go_enter Try.func21, Try.ntmps21
  go_wp2
  go_quiet (fail)
  go_wp2
  go_end0
  refine ⟨rfl, ⟨.slice (some ⟨w.heap.size, 0, none⟩) (W * H) (W * H), ?_⟩, ?_⟩
  · have h1 := setCell_row w zb _ 59 hz 2 (.bool false)
    have h2 := setCell_row ((w.setCell ⟨zb, 2, none⟩ (.bool false)).drewN nq) zb _ 59 h1 1 (.slice (some ⟨w.heap.size, 0, none⟩) (W * H) (W * H))
    rw [Below.heap_alloc _ _ _ (Array.getElem?_eq_some_iff.1 h2).1, h2]
    rfl
  · exact ((((Only.refl (fun x => x = zb) w).setCell (p := ⟨zb, 2, none⟩) rfl _).drewN nq).setCell (p := ⟨zb, 1, none⟩) rfl _).alloc _

theorem madeCells_one (v : Value) (n : Nat) : madeCells #[v] n = ((List.range n).map fun _ => v).toArray := by
  unfold madeCells
  apply Array.ext'
  simp [Nat.mod_one]

set_option maxRecDepth 100000 in
set_option maxHeartbeats 1000000 in
theorem use_true (zb W H fx fy px py : Nat) (u b0 : Value) (w : World) (hW : 1 ≤ W) (hW2 : W ≤ 64) (hH1 : 1 ≤ H) (hH : H ≤ 64) (hb0 : ∃ x, b0 = .bool x)
    (hz : w.heap[zb]? = some (.cells (zCells (.slice none 0 0) u b0 W H fx fy px py).toArray 59 (0, 0))) :
    Calls Try.prog 21 #[.pointer (some ⟨zb, 0, none⟩), .bool true] w fun e w' => e = .returned (.tuple #[]) ∧
      (∃ bb, w.heap.size ≤ bb ∧ Ras w' zb bb W H fx fy px py (fun _ => 0)) ∧ Only (· = zb) w w' := by
  obtain ⟨x0, rfl⟩ := hb0
  have hc : ∀ j, w.cell? ⟨zb, j, none⟩ = (zCells (.slice none 0 0) u (.bool x0) W H fx fy px py)[j]? := fun j => by rw [cell_of_row w zb j _ 59 (0, 0) hz]; simp
  have hf : ∀ j, w.frozen? ⟨zb, j, none⟩ = false := fun j => frozen_of_row w zb j _ 59 hz
  have c0 : w.cell? ⟨zb, 0, none⟩ = some (.slice none 0 0) := hc 0
  have c2 : w.cell? ⟨zb, 2, none⟩ = some (.bool x0) := hc 2
  have c3 : w.cell? ⟨zb, 3, none⟩ = some (.int .i64 W) := hc 3
  have c4 : w.cell? ⟨zb, 4, none⟩ = some (.int .i64 H) := hc 4
  have f0 := hf 0
  have f2 := hf 2
  have hzb : zb < w.heap.size := (Array.getElem?_eq_some_iff.1 hz).1
  have hWH : (W : Int) * H ≤ 4096 := by
    have : W * H ≤ 64 * 64 := Nat.mul_le_mul hW2 hH
    exact_mod_cast this
  have hWH0 : 0 < (W : Int) * H := by
    have : 1 * 1 ≤ W * H := Nat.mul_le_mul hW hH1
    exact_mod_cast this
  have hmk := fun w => (Int.natCast_mul W H) ▸ make56 (W * H) (Nat.mul_le_mul hW2 hH) w
  clear hc hf
  go_enter Try.func21, Try.ntmps21
  go_wp2
  go_quiet (fail)
  go_wp2
  go_end0
  have h1 := setCell_row w zb _ 59 hz 2 (.bool true)
  have h2 := setCell_row ((w.setCell ⟨zb, 2, none⟩ (.bool true)).drewN nq) zb _ 59 h1 0 (.slice (some ⟨w.heap.size, 0, none⟩) (W * H) (W * H))
  have hsz : (((w.setCell ⟨zb, 2, none⟩ (.bool true)).drewN nq).setCell ⟨zb, 0, none⟩ (.slice (some ⟨w.heap.size, 0, none⟩) (W * H) (W * H))).heap.size = w.heap.size := by simp [World.setCell]
  refine ⟨rfl, ⟨w.heap.size, Nat.le_refl _, ⟨⟨u, ?_⟩, ?_, by omega⟩⟩, ?_⟩
  · rw [Below.heap_alloc _ _ _ (Array.getElem?_eq_some_iff.1 h2).1, h2]
    rfl
  · have h3 := heap_alloc_new (((w.setCell ⟨zb, 2, none⟩ (.bool true)).drewN nq).setCell ⟨zb, 0, none⟩ (.slice (some ⟨w.heap.size, 0, none⟩) (W * H) (W * H))) (.cells (madeCells #[Value.float FloatKind.f32 0] (W * H)) 56)
    rw [hsz] at h3
    rw [h3, madeCells_one]; rfl
  · exact ((((Only.refl (fun x => x = zb) w).setCell (p := ⟨zb, 2, none⟩) rfl _).drewN nq).setCell (p := ⟨zb, 0, none⟩) rfl _).alloc _

set_option maxRecDepth 100000 in
set_option maxHeartbeats 1000000 in
theorem zzuse13 (zb W H fx fy px py : Nat) (u b0 : Value) (w : World) (hW : 1 ≤ W) (hW2 : W ≤ 64) (hH1 : 1 ≤ H) (hH : H ≤ 64) (hb0 : ∃ x, b0 = .bool x)
    (hz : w.heap[zb]? = some (.cells (zCells (.slice none 0 0) u b0 W H fx fy px py).toArray 59 (0, 0))) :
    Calls Try.prog 13 #[.pointer (some ⟨zb, 0, none⟩), .bool true] w fun e w' => e = .returned (.tuple #[]) ∧
      (∃ bb, w.heap.size ≤ bb ∧ Ras w' zb bb W H fx fy px py (fun _ => 0)) ∧ Only (· = zb) w w' := by
  go_enter Try.func13, Try.ntmps13
  go_wp2_with (go_at_call 21; refine (use_true zb W H fx fy px py u b0 _ hW hW2 hH1 hH hb0 hz).mono ?_; rintro e w' ⟨rfl, hr, ho⟩)
  go_end0
  exact ⟨rfl, hr, ho⟩

set_option maxRecDepth 100000 in
set_option maxHeartbeats 1000000 in
theorem reset20 (zb W H : Nat) (w : World) (hW : 1 ≤ W) (hW2 : W ≤ 64) (hH1 : 1 ≤ H) (hH : H ≤ 64)
    (hz : w.heap[zb]? = some (.cells [Value.slice none 0 0, .slice none 0 0, .bool false, .int .i64 0, .int .i64 0, .float .f32 0, .float .f32 0, .float .f32 0, .float .f32 0, .int .i64 0].toArray 59 (0, 0))) :
    Calls Try.prog 20 #[.pointer (some ⟨zb, 0, none⟩), .int .i64 W, .int .i64 H] w fun e w' => e = .returned (.tuple #[]) ∧
      (∃ u, w'.heap[zb]? = some (.cells (zCells (.slice none 0 0) u (.bool false) W H 0 0 0 0).toArray 59 (0, 0))) ∧ Only (· = zb) w w' := by
  have hc : ∀ j, w.cell? ⟨zb, j, none⟩ = [Value.slice none 0 0, .slice none 0 0, .bool false, .int .i64 0, .int .i64 0, .float .f32 0, .float .f32 0, .float .f32 0, .float .f32 0, .int .i64 0][j]? := fun j => by rw [cell_of_row w zb j _ 59 (0, 0) hz]; simp
  have hf : ∀ j, w.frozen? ⟨zb, j, none⟩ = false := fun j => frozen_of_row w zb j _ 59 hz
  have c3 : w.cell? ⟨zb, 3, none⟩ = some (.int .i64 0) := hc 3
  have c4 : w.cell? ⟨zb, 4, none⟩ = some (.int .i64 0) := hc 4
  have c5 : w.cell? ⟨zb, 5, none⟩ = some (.float .f32 0) := hc 5
  have c6 : w.cell? ⟨zb, 6, none⟩ = some (.float .f32 0) := hc 6
  have c7 : w.cell? ⟨zb, 7, none⟩ = some (.float .f32 0) := hc 7
  have c8 : w.cell? ⟨zb, 8, none⟩ = some (.float .f32 0) := hc 8
  have c9 : w.cell? ⟨zb, 9, none⟩ = some (.int .i64 0) := hc 9
  have f3 := hf 3
  have f4 := hf 4
  have f5 := hf 5
  have f6 := hf 6
  have f7 := hf 7
  have f8 := hf 8
  have f9 := hf 9
  have hd1 : decide ((W : Int) > 512) = false := by simp; omega
  have hd2 : decide ((H : Int) > 512) = false := by simp; omega
  have hd3 : decide (512 < (W : Int)) = false := by simp; omega
  have hd4 : decide (512 < (H : Int)) = false := by simp; omega
  clear hc hf
  go_enter Try.func20, Try.ntmps20
  go_wp2_with fail
  have hz' := setCell_row _ zb _ 59 (setCell_row _ zb _ 59 (setCell_row _ zb _ 59 (setCell_row _ zb _ 59 (setCell_row _ zb _ 59 (setCell_row _ zb _ 59 (setCell_row w zb _ 59 hz 3 (.int .i64 W)) 4 (.int .i64 H)) 5 (.float .f32 0)) 6 (.float .f32 0)) 7 (.float .f32 0)) 8 (.float .f32 0)) 9 (.int .i64 0)
  refine (use_false zb W H 0 0 0 0 (.slice none 0 0) (.bool false) _ hW hW2 hH1 hH ⟨_, rfl⟩ hz').mono ?_
  rintro e w' ⟨rfl, hr, ho⟩
  go_wp2
  go_end0
  refine ⟨rfl, hr, Only.trans ?_ ho⟩
  exact (((((((Only.refl (fun x => x = zb) w).setCell (p := ⟨zb, 3, none⟩) rfl _).setCell (p := ⟨zb, 4, none⟩) rfl _).setCell (p := ⟨zb, 5, none⟩) rfl _).setCell (p := ⟨zb, 6, none⟩) rfl _).setCell (p := ⟨zb, 7, none⟩) rfl _).setCell (p := ⟨zb, 8, none⟩) rfl _).setCell (p := ⟨zb, 9, none⟩) rfl _

theorem build59 (w : World) : (Instr.build 59 #[]).run Try.prog w = .ok (.agg #[.slice none 0 0, .slice none 0 0, .bool false, .int .i64 0, .int .i64 0, .float .f32 0, .float .f32 0, .float .f32 0, .float .f32 0, .int .i64 0]) w := by kernel_rfl

set_option maxRecDepth 100000 in
set_option maxHeartbeats 1000000 in
theorem new12 (W H : Nat) (w : World) (hW : 1 ≤ W) (hW2 : W ≤ 64) (hH1 : 1 ≤ H) (hH : H ≤ 64) :
    Calls Try.prog 12 #[.int .i64 W, .int .i64 H] w fun e w' => e = .returned (.pointer (some ⟨w.heap.size, 0, none⟩)) ∧
      (∃ u, w'.heap[w.heap.size]? = some (.cells (zCells (.slice none 0 0) u (.bool false) W H 0 0 0 0).toArray 59 (0, 0))) ∧ Below w.heap.size w w' := by
  have hz := heap_alloc_new w (.cells #[Value.slice none 0 0, .slice none 0 0, .bool false, .int .i64 0, .int .i64 0, .float .f32 0, .float .f32 0, .float .f32 0, .float .f32 0, .int .i64 0] 59)
  have hb := build59
  go_enter Try.func12, Try.ntmps12
  go_wp2_with fail
  refine (reset20 w.heap.size W H _ hW hW2 hH1 hH hz).mono ?_
  rintro e w' ⟨rfl, hr, ho⟩
  go_wp2
  go_ret
  exact ⟨rfl, hr, ((Below.refl _ w).alloc (Nat.le_refl _) _).trans (ho.below (fun k hk => by omega) (by simp))⟩
end Go.Proofs.Ytmgcbodlolnheaa
