/- The rasterizer in memory; the walks of at and MoveTo. -/
import Derived.Test.YtmgcbodlolnheaaWa
namespace Go.Proofs.Ytmgcbodlolnheaa
open Go.RowKit

set_option maxHeartbeats 400000 in
theorem at_any (k : Int) (pb n c : Nat) (i : Nat) (v : Int) (r : Nat) (w : World) (hin : (i : Int) < n) (_hn : (n : Int) ≤ 9223372036854775807)
    (hc : w.cell? ⟨pb, i, none⟩ = some (.int .i64 v)) (hr : coord v = some r) :
    Calls Try.prog 23 #[.agg #[.int .i64 k, .slice (some ⟨pb, 0, none⟩) n c], .int .i64 i] w fun e w' => e = .returned (.float .f32 r) ∧ Below w.heap.size w w' := by
  have r1 := rdiv32 (show div32 (of32 v) w64 = some r from hr)
  unfold of32 w64 at r1
  have hpb : pb < w.heap.size := World.block_lt_of_cell? w _ hc
  clear hr
  go_enter Try.func23, Try.ntmps23
  go_wp2
  go_ret
  exact ⟨rfl, (Below.refl _ _).alloc (Nat.le_refl _) _⟩

/-- Nothing but some blocks has turned. -/
structure Only (S : Nat → Prop) (w w' : World) : Prop where
  os : w'.os = w.os
  tape : w'.tape = w.tape
  output : w'.output = w.output
  size : w.heap.size ≤ w'.heap.size
  block : ∀ k, k < w.heap.size → ¬ S k → w'.heap[k]? = w.heap[k]?

theorem Only.refl (S : Nat → Prop) (w : World) : Only S w w := ⟨rfl, rfl, rfl, Nat.le_refl _, fun _ _ _ => rfl⟩
theorem Only.trans {S : Nat → Prop} {a b c : World} (h : Only S a b) (k : Only S b c) : Only S a c :=
  ⟨k.os.trans h.os, k.tape.trans h.tape, k.output.trans h.output, Nat.le_trans h.size k.size,
    fun i hi hs => (k.block i (Nat.lt_of_lt_of_le hi h.size) hs).trans (h.block i hi hs)⟩
theorem Only.mono {S T : Nat → Prop} {a b : World} (h : Only S a b) (hst : ∀ k, S k → T k) : Only T a b :=
  ⟨h.os, h.tape, h.output, h.size, fun i hi hs => h.block i hi (fun c => hs (hst i c))⟩
theorem Only.drew {S : Nat → Prop} {a w : World} (h : Only S a w) : Only S a w.drew := ⟨h.os, h.tape, h.output, h.size, h.block⟩
theorem Only.drewN {S : Nat → Prop} {a w : World} (n : Nat) (h : Only S a w) : Only S a (w.drewN n) := ⟨h.os, h.tape, h.output, h.size, h.block⟩
theorem Only.alloc {S : Nat → Prop} {a w : World} (h : Only S a w) (o : Obj) : Only S a (w.alloc o) :=
  h.trans ⟨rfl, rfl, rfl, by simp, fun k hk _ => Below.heap_alloc _ _ _ hk⟩
theorem Only.setCell {S : Nat → Prop} {a w : World} (h : Only S a w) {p : Addr} (hp : S p.block) (u : Value) : Only S a (w.setCell p u) :=
  h.trans ⟨rfl, rfl, rfl, by simp [World.setCell], fun k _ hs => Below.heap_setCell _ _ _ _ (fun e => hs (e ▸ hp))⟩
theorem Only.below {S : Nat → Prop} {B : Nat} {a w : World} (h : Only S a w) (hS : ∀ k, S k → B ≤ k) (hB : B ≤ a.heap.size) : Below B a w :=
  ⟨h.os, h.tape, h.output, h.size, fun k hk => h.block k (Nat.lt_of_lt_of_le hk hB) (fun c => by have := hS k c; omega)⟩
theorem Below.only {S : Nat → Prop} {a w : World} (h : Below a.heap.size a w) : Only S a w := ⟨h.os, h.tape, h.output, h.size, fun k hk _ => h.block k hk⟩

/-- A rasterizer's cells. -/
def rasCells (bb n : Nat) (u : Value) (W H : Nat) (fx fy px py : Nat) : List Value :=
  [.slice (some ⟨bb, 0, none⟩) n n, u, .bool true, .int .i64 W, .int .i64 H, .float .f32 fx, .float .f32 fy, .float .f32 px, .float .f32 py, .int .i64 0]

def bufCells (n : Nat) (b : Nat → Nat) : List Value := (List.range n).map fun k => .float .f32 (b k)

theorem getD_bufCells (n : Nat) (b : Nat → Nat) (k : Nat) (h : k < n) : (bufCells n b)[k]? = some (.float .f32 (b k)) := by
  unfold bufCells; simp [h]
theorem length_bufCells (n : Nat) (b : Nat → Nat) : (bufCells n b).length = n := by simp [bufCells]
theorem set_bufCells (n : Nat) (b : Nat → Nat) (i v : Nat) : (bufCells n b).set i (.float .f32 v) = bufCells n (upd b i v) := by
  apply List.ext_getElem?
  intro j
  rw [List.getElem?_set, length_bufCells]
  by_cases hj : j < n
  · rw [getD_bufCells n _ j hj, getD_bufCells n _ j hj]
    by_cases hij : i = j
    · subst hij; simp [hj, upd]
    · rw [if_neg hij]; unfold upd; rw [if_neg (Ne.symm hij)]
  · have h1 : (bufCells n b)[j]? = none := by rw [List.getElem?_eq_none_iff, length_bufCells]; omega
    have h2 : (bufCells n (upd b i v))[j]? = none := by rw [List.getElem?_eq_none_iff, length_bufCells]; omega
    rw [h1, h2]
    by_cases hij : i = j
    · subst hij; simp [hj]
    · simp [hij]

/-- A rasterizer of floating numbers lies at zb, its buffer at bb. -/
structure Ras (w : World) (zb bb W H fx fy px py : Nat) (b : Nat → Nat) : Prop where
  z : ∃ u, w.heap[zb]? = some (.cells (rasCells bb (W * H) u W H fx fy px py).toArray 59 (0, 0))
  buf : w.heap[bb]? = some (.cells (bufCells (W * H) b).toArray 56 (0, 0))
  ne : zb ≠ bb

theorem setCell_row (w : World) (g : Nat) (l : List Value) (e : TypeId) (h : w.heap[g]? = some (.cells l.toArray e (0, 0))) (j : Nat) (v : Value) :
    (w.setCell ⟨g, j, none⟩ v).heap[g]? = some (.cells (l.set j v).toArray e (0, 0)) := by
  simp only [World.setCell, Array.getElem?_modify, if_true]
  rw [h]
  simp

section
variable {w : World} {zb bb W H fx fy px py : Nat} {b : Nat → Nat}
theorem Ras.cell (h : Ras w zb bb W H fx fy px py b) : ∃ u, ∀ j, w.cell? ⟨zb, j, none⟩ = (rasCells bb (W * H) u W H fx fy px py)[j]? := by
  obtain ⟨u, hz⟩ := h.z
  exact ⟨u, fun j => by rw [cell_of_row w zb j _ 59 (0, 0) hz]; simp⟩
theorem Ras.free (h : Ras w zb bb W H fx fy px py b) (j : Nat) : w.frozen? ⟨zb, j, none⟩ = false := by
  obtain ⟨u, hz⟩ := h.z
  exact frozen_of_row w zb j _ 59 hz
theorem Ras.bcell (h : Ras w zb bb W H fx fy px py b) (k : Nat) (hk : k < W * H) : w.cell? ⟨bb, k, none⟩ = some (.float .f32 (b k)) := by
  rw [cell_of_row w bb k _ 56 (0, 0) h.buf]; simpa using getD_bufCells (W * H) b k hk
theorem Ras.bfree (h : Ras w zb bb W H fx fy px py b) (j : Nat) : w.frozen? ⟨bb, j, none⟩ = false := frozen_of_row w bb j _ 56 h.buf
theorem Ras.drew (h : Ras w zb bb W H fx fy px py b) : Ras w.drew zb bb W H fx fy px py b := ⟨h.z, h.buf, h.ne⟩
theorem Ras.drewN (n : Nat) (h : Ras w zb bb W H fx fy px py b) : Ras (w.drewN n) zb bb W H fx fy px py b := ⟨h.z, h.buf, h.ne⟩
theorem Ras.setBuf (h : Ras w zb bb W H fx fy px py b) (k v : Nat) : Ras (w.setCell ⟨bb, k, none⟩ (.float .f32 v)) zb bb W H fx fy px py (upd b k v) := by
  obtain ⟨u, hz⟩ := h.z
  refine ⟨⟨u, ?_⟩, ?_, h.ne⟩
  · rw [Below.heap_setCell _ _ _ _ h.ne]; exact hz
  · rw [setCell_row w bb _ 56 h.buf, set_bufCells]
theorem Ras.setPen (h : Ras w zb bb W H fx fy px py b) (x y : Nat) :
    Ras ((w.setCell ⟨zb, 7, none⟩ (.float .f32 x)).setCell ⟨zb, 8, none⟩ (.float .f32 y)) zb bb W H fx fy x y b := by
  obtain ⟨u, hz⟩ := h.z
  refine ⟨⟨u, ?_⟩, ?_, h.ne⟩
  · rw [setCell_row _ zb _ 59 (setCell_row w zb _ 59 hz 7 _) 8]; rfl
  · rw [Below.heap_setCell _ _ _ _ (Ne.symm h.ne), Below.heap_setCell _ _ _ _ (Ne.symm h.ne)]; exact h.buf
theorem Ras.only {S : Nat → Prop} {w' : World} (h : Ras w zb bb W H fx fy px py b) (k : Only S w w') (h1 : ¬ S zb) (h2 : ¬ S bb) : Ras w' zb bb W H fx fy px py b := by
  obtain ⟨u, hz⟩ := h.z
  have l1 : zb < w.heap.size := (Array.getElem?_eq_some_iff.1 hz).1
  have l2 : bb < w.heap.size := (Array.getElem?_eq_some_iff.1 h.buf).1
  exact ⟨⟨u, by rw [k.block zb l1 h1]; exact hz⟩, by rw [k.block bb l2 h2]; exact h.buf, h.ne⟩
end
end Go.Proofs.Ytmgcbodlolnheaa
