/- The walks of the accumulation and of ZZMask. -/
import Derived.Test.YtmgcbodlolnheaaWg
namespace Go.Proofs.Ytmgcbodlolnheaa
open Go.RowKit

def byteCells (l : List Int) : List Value := l.map (Value.int .u8)

/-- The accumulation at a place. -/
def AccRel (w : World) (db bb n : Nat) (b : Nat → Nat) (l : List Int) (s4 s15 : Value) (wx : World) : Prop :=
  ∃ (k a : Nat) (done rest : List Int), s4 = .float .f32 a ∧ s15 = .int .i64 k ∧ k ≤ n ∧ done.length = k ∧ Hid (accum b (n - k) k a = some rest) ∧ Hid (done ++ rest = l) ∧
    wx.heap[db]? = some (.cells (byteCells (done ++ List.replicate (n - k) 0)).toArray 5 (0, 0)) ∧ wx.heap[bb]? = some (.cells (bufCells n b).toArray 56 (0, 0)) ∧ Only (· = db) w wx

theorem negRun (x : Nat) (w : World) : (Op.unary .neg (.float .f32 x)).run Try.prog w = .ok (.float .f32 (Op.negFloat .f32 x)) w := rfl

theorem set_done (done : List Int) (m : Nat) (u : Int) : (byteCells (done ++ List.replicate (m + 1) 0)).set done.length (.int .u8 u) = byteCells (done ++ [u] ++ List.replicate m 0) := by
  unfold byteCells
  rw [← List.map_set]
  congr 1
  rw [List.set_append]
  simp [List.replicate_succ]

set_option maxRecDepth 100000 in
set_option maxHeartbeats 1000000 in
theorem accum28 (db bb n : Nat) (b : Nat → Nat) (l : List Int) (w : World) (hn : n ≤ 4096) (hne : db ≠ bb) (hacc : accum b n 0 0 = some l)
    (hd : w.heap[db]? = some (.cells (byteCells (List.replicate n 0)).toArray 5 (0, 0))) (hb : w.heap[bb]? = some (.cells (bufCells n b).toArray 56 (0, 0))) :
    Calls Try.prog 28 #[.slice (some ⟨db, 0, none⟩) n n, .slice (some ⟨bb, 0, none⟩) n n] w fun e w' => e = .returned (.tuple #[]) ∧
      w'.heap[db]? = some (.cells (byteCells l).toArray 5 (0, 0)) ∧ Only (· = db) w w' := by
  have HACC := Lib.hid hacc
  clear hacc
  have hnn : decide ((n : Int) < n) = false := by simp
  have hneg := negRun
  go_enter Try.func28, Try.ntmps28
  go_wp2
  go_loopw [4, 15] (AccRel w db bb n b l) (fun _ i _ => n - (intOf i).toNat)
  case atStart => exact ⟨0, 0, [], l, rfl, rfl, Nat.zero_le _, rfl, by simpa using HACC, rfl, by simpa using hd, hb, Only.refl _ _⟩
  case round =>
    obtain ⟨k, a, done, rest, rfl, rfl, hk, hlen, HA, HL, hdb, hbb, ho⟩ := hrel
    clear HACC hd hb
    by_cases hlt : k < n
    · have hcell : wr.cell? ⟨bb, k, none⟩ = some (.float .f32 (b k)) := by
        rw [cell_of_row wr bb k _ 56 (0, 0) hbb]; simpa using getD_bufCells n b k hlt
      have hdc : ∃ v, wr.cell? ⟨db, k, none⟩ = some v := by
        rw [cell_of_row wr db k _ 5 (0, 0) hdb]
        refine ⟨(byteCells (done ++ List.replicate (n - k) 0))[k]'(by simp [byteCells]; omega), by simp [byteCells]⟩
      obtain ⟨v0, hdc⟩ := hdc
      have hdf : wr.frozen? ⟨db, k, none⟩ = false := frozen_of_row wr db k _ 5 hdb
      obtain ⟨c, hc⟩ : ∃ c, n - k = c + 1 := ⟨n - k - 1, by omega⟩
      have ha := HA.out
      rw [hc] at ha
      unfold accum at ha
      simp only [Option.bind_eq_some_iff, Option.some.injEq] at ha
      obtain ⟨a', ha', u, hu, rest', hrest, hr⟩ := ha
      have t1 := radd32 ha'
      have hfin : ∀ wx : World, wx = wr.setCell ⟨db, k, none⟩ (.int .u8 u) → AccRel w db bb n b l (.float .f32 a') (.int .i64 ((k : Int) + 1)) wx := by
        rintro wx rfl
        refine ⟨k + 1, a', done ++ [u], rest', rfl, by go_num, hlt, by simp [hlen], ?_, ?_, ?_, ?_, ?_⟩
        · rw [show n - (k + 1) = c by omega]; exact hrest
        · show done ++ [u] ++ rest' = l
          rw [List.append_assoc, List.singleton_append, hr]; exact HL.out
        · have := setCell_row wr db _ 5 hdb k (.int .u8 u)
          rw [this, hc]
          have e := set_done done c u
          rw [hlen] at e
          rw [e, show n - (k + 1) = c by omega]
        · rw [Below.heap_setCell _ _ _ _ (Ne.symm hne)]; exact hbb
        · exact ho.setCell (p := ⟨db, k, none⟩) rfl _
      clear HA HL hdb hbb ho hrest hr ha' hlen
      unfold byteOf lt32 gt32 w1 w256 neg32 at hu
      dsimp only at hu
      go_upto_if 25 with (fail)
      generalize (FloatKind.f32.format.order a' 0 == some .lt) = B1 at hu ⊢
      cases B1
      case false =>
        simp only [Bool.false_eq_true, if_false] at hu
        have HU := Lib.hid hu
        clear hu
        go_upto_if 29 with (fail)
        have hu := HU.out
        clear HU
        generalize (FloatKind.f32.format.order a' 1065353216 == some .gt) = B2 at hu ⊢
        cases B2
        all_goals
          simp only [Bool.false_eq_true, if_false, if_true, Option.bind_eq_some_iff] at hu
          obtain ⟨e1, he1, hu1⟩ := hu
          have t2 := rmul32 he1
          have t3 := fun w => run_convert_float_int (P := Try.prog) w 56 5 .f32 .u8 e1 u (by kernel_rfl) (by kernel_rfl) hu1
          have HF := Lib.hid (hfin _ rfl)
          clear he1 hu1 hfin
          go_wp2
          go_roundw
          case rel => exact HF.out
          case measure => simp [intOf]; omega
      case true =>
        simp only [if_true] at hu
        have HU := Lib.hid hu
        clear hu
        go_upto_if 29 with (fail)
        have hu := HU.out
        clear HU
        generalize (FloatKind.f32.format.order (Op.negFloat .f32 a') 1065353216 == some .gt) = B2 at hu ⊢
        cases B2
        all_goals
          simp only [Bool.false_eq_true, if_false, if_true, Option.bind_eq_some_iff] at hu
          obtain ⟨e1, he1, hu1⟩ := hu
          have t2 := rmul32 he1
          have t3 := fun w => run_convert_float_int (P := Try.prog) w 56 5 .f32 .u8 e1 u (by kernel_rfl) (by kernel_rfl) hu1
          have HF := Lib.hid (hfin _ rfl)
          clear he1 hu1 hfin
          go_wp2
          go_roundw
          case rel => exact HF.out
          case measure => simp [intOf]; omega
    · have hk' : k = n := by omega
      subst hk'
      have ha := HA.out
      rw [Nat.sub_self] at ha
      unfold accum at ha
      cases ha
      have hl := HL.out
      rw [List.append_nil] at hl
      subst hl
      rw [Nat.sub_self, List.replicate_zero, List.append_nil] at hdb
      have HD := Lib.hid hdb
      clear HA HL hdb hbb hlen
      have hlt' : decide (k < k) = false := by simp
      go_wp2
      go_end0
      exact ⟨rfl, HD.out, ho⟩

theorem madeBytes (n : Nat) : madeCells #[Value.int .u8 0] n = (byteCells (List.replicate n 0)).toArray := by
  rw [madeCells_one]
  congr 1
  unfold byteCells
  apply List.ext_getElem
  · simp
  · intro i h1 h2; simp

set_option maxRecDepth 100000 in
set_option maxHeartbeats 1000000 in
theorem zzmask15 (zb bb W H fx fy px py : Nat) (b : Nat → Nat) (l : List Int) (w : World) (hW2 : W ≤ 64) (hH : H ≤ 64)
    (hras : Ras w zb bb W H fx fy px py b) (hacc : accum b (W * H) 0 0 = some l) :
    Calls Try.prog 15 #[.pointer (some ⟨zb, 0, none⟩)] w fun e w' => ∃ db, w.heap.size ≤ db ∧ e = .returned (.slice (some ⟨db, 0, none⟩) (W * H) (W * H)) ∧
      w'.heap[db]? = some (.cells (byteCells l).toArray 5 (0, 0)) ∧ Below w.heap.size w w' := by
  obtain ⟨u, hc⟩ := hras.cell
  have c0 : w.cell? ⟨zb, 0, none⟩ = some (.slice (some ⟨bb, 0, none⟩) (W * H) (W * H)) := hc 0
  have c2 : w.cell? ⟨zb, 2, none⟩ = some (.bool true) := hc 2
  have c3 : w.cell? ⟨zb, 3, none⟩ = some (.int .i64 W) := hc 3
  have c4 : w.cell? ⟨zb, 4, none⟩ = some (.int .i64 H) := hc 4
  have hzb : zb < w.heap.size := World.block_lt_of_cell? w _ c0
  have hbb : bb < w.heap.size := (Array.getElem?_eq_some_iff.1 hras.buf).1
  have hWH : (W : Int) * H ≤ 4096 := by
    have : W * H ≤ 64 * 64 := Nat.mul_le_mul hW2 hH
    exact_mod_cast this
  have hWH0 : 0 ≤ (W : Int) * H := by
    exact_mod_cast Nat.zero_le (W * H)
  have hmk := fun w => (Int.natCast_mul W H) ▸ make5 (W * H) (Nat.mul_le_mul hW2 hH) w
  clear hc
  have hwrap : IntKind.i64.wrap ((W : Int) * H) = (W : Int) * H := by rw [IntKind.wrap_i64]; omega
  go_enter Try.func15, Try.ntmps15
  go_wp2_with fail
  go_region_held3 (fun w' => w'.cell? ⟨zb, 3, none⟩ = some (.int .i64 W) ∧ w'.cell? ⟨zb, 4, none⟩ = some (.int .i64 H)) (go_keep) (fail)
  clear hwrap hmk
  have hd : (w.alloc (Obj.cells (madeCells #[Value.int IntKind.u8 0] (W * H)) 5)).drew.heap[w.heap.size]? = some (.cells (byteCells (List.replicate (W * H) 0)).toArray 5 (0, 0)) := by
    rw [← madeBytes]; exact heap_alloc_new w _
  have hb : (w.alloc (Obj.cells (madeCells #[Value.int IntKind.u8 0] (W * H)) 5)).drew.heap[bb]? = some (.cells (bufCells (W * H) b).toArray 56 (0, 0)) :=
    (Below.heap_alloc w _ bb hbb).trans hras.buf
  have HB : Below w.heap.size w (w.alloc (Obj.cells (madeCells #[Value.int IntKind.u8 0] (W * H)) 5)).drew := ((Below.refl _ w).alloc (Nat.le_refl _) _).drew
  have hne : w.heap.size ≠ bb := by omega
  have HD := Lib.hid hd
  have HBB := Lib.hid hb
  clear hd hb
  go_wp2_with (go_at_call 28; refine (accum28 w.heap.size bb (W * H) b l _ (Nat.mul_le_mul hW2 hH) hne hacc HD.out HBB.out).mono ?_; rintro e w' ⟨rfl, hr, ho⟩)
  go_ret
  exact ⟨w.heap.size, Nat.le_refl _, rfl, hr, HB.trans (ho.below (fun k hk => by omega) (by simp))⟩
end Go.Proofs.Ytmgcbodlolnheaa
