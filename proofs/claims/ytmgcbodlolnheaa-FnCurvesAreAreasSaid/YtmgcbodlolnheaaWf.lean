/- The walk of call, at its three kinds. -/
import Derived.Test.YtmgcbodlolnheaaWe
namespace Go.Proofs.Ytmgcbodlolnheaa
open Go.RowKit

def Nix (_ : Nat) : Prop := False

theorem Only.cell {S : Nat → Prop} {w w' : World} (h : Only S w w') {g : Nat} (j : Nat) (hg : g < w.heap.size) (hS : ¬ S g) : w'.cell? ⟨g, j, none⟩ = w.cell? ⟨g, j, none⟩ :=
  World.cell?_of_block (h.block g hg hS)
theorem Only.frozen {S : Nat → Prop} {w w' : World} (h : Only S w w') {g : Nat} (j : Nat) (hg : g < w.heap.size) (hS : ¬ S g) : w'.frozen? ⟨g, j, none⟩ = w.frozen? ⟨g, j, none⟩ :=
  World.frozen?_of_block (h.block g hg hS)

/-- The coordinates that an Op holds, in a world. -/
def Held (w : World) (pb : Nat) (n : Nat) (P : Nat → Int) : Prop := ∀ i, i < n → w.cell? ⟨pb, i, none⟩ = some (.int .i64 (P i))

theorem Held.only {S : Nat → Prop} {w w' : World} {pb n : Nat} {P : Nat → Int} (h : Held w pb n P) (k : Only S w w') (hS : ¬ S pb) : Held w' pb n P := fun i hi => by
  have := h i hi
  rw [k.cell i (World.block_lt_of_cell? w ⟨pb, i, none⟩ this) hS]; exact this

set_option maxHeartbeats 400000 in
theorem at_gen (k : Int) (pb n c : Nat) (P : Nat → Int) (R : Nat → Nat) (i : Int) (w : World) (h0 : 0 ≤ i) (h1 : i < n) (hn : n ≤ 1000)
    (hP : Held w pb n P) (hR : ∀ i, i < n → coord (P i) = some (R i)) :
    Calls Try.prog 23 #[.agg #[.int .i64 k, .slice (some ⟨pb, 0, none⟩) n c], .int .i64 i] w fun e w' => e = .returned (.float .f32 (R i.toNat)) ∧ Below w.heap.size w w' := by
  obtain ⟨j, rfl⟩ := Int.eq_ofNat_of_zero_le h0
  exact at_any k pb n c j (P j) (R j) w (by omega) (by omega) (hP j (by omega)) (hR j (by omega))

set_option maxHeartbeats 1000000 in
theorem call_move (zb bb W H fx fy px py : Nat) (b : Nat → Nat) (pb c : Nat) (P : Nat → Int) (R : Nat → Nat) (w : World)
    (hras : Ras w zb bb W H fx fy px py b) (hP : Held w pb 2 P) (hR : ∀ i, i < 2 → coord (P i) = some (R i)) :
    Calls Try.prog 14 #[.pointer (some ⟨zb, 0, none⟩), .agg #[.int .i64 0, .slice (some ⟨pb, 0, none⟩) 2 c]] w fun e w' =>
      e = .returned (.tuple #[]) ∧ Ras w' zb bb W H (R 0) (R 1) (R 0) (R 1) b ∧ Only (Duo zb bb) w w' := by
  have hpb : pb < w.heap.size := World.block_lt_of_cell? w _ (hP 0 (by omega))
  have hzb : zb < w.heap.size := by obtain ⟨u, hz⟩ := hras.z; exact (Array.getElem?_eq_some_iff.1 hz).1
  have hbb : bb < w.heap.size := (Array.getElem?_eq_some_iff.1 hras.buf).1
  go_enter Try.func14, Try.ntmps14
  go_wp2
  have hbox : (w.alloc (Obj.cells #[Value.int IntKind.i64 0, Value.slice (some ⟨pb, 0, none⟩) 2 c] 30)).cell? ⟨w.heap.size, 0, none⟩ = some (.int .i64 0) ∧
      (w.alloc (Obj.cells #[Value.int IntKind.i64 0, Value.slice (some ⟨pb, 0, none⟩) 2 c] 30)).cell? ⟨w.heap.size, 1, none⟩ = some (.slice (some ⟨pb, 0, none⟩) 2 c) := by
    constructor <;> go_simp
  have hO : Only Nix w (w.alloc (Obj.cells #[Value.int IntKind.i64 0, Value.slice (some ⟨pb, 0, none⟩) 2 c] 30)) := (Only.refl _ w).alloc _
  have hsz : w.heap.size < (w.alloc (Obj.cells #[Value.int IntKind.i64 0, Value.slice (some ⟨pb, 0, none⟩) 2 c] 30)).heap.size := by simp
  generalize w.alloc (Obj.cells #[Value.int IntKind.i64 0, Value.slice (some ⟨pb, 0, none⟩) 2 c] 30) = WA at hbox hO hsz ⊢
  have hP' := hP.only hO (fun h => h)
  have hras' := hras.only hO (fun h => h) (fun h => h)
  have hN : w.heap.size ≠ zb ∧ w.heap.size ≠ bb := by omega
  generalize w.heap.size = N at hbox hsz hN ⊢
  obtain ⟨b0, b1⟩ := hbox
  have hK : Only Nix WA WA.drew := (Only.refl _ _).drew
  clear hP hras hpb hzb hbb
  go_region_held3 (fun w' => w'.cell? ⟨N, 0, none⟩ = some (.int .i64 0) ∧ w'.cell? ⟨N, 1, none⟩ = some (.slice (some ⟨pb, 0, none⟩) 2 c))
    (first | go_keep | exact ⟨(hK.cell 0 hsz (fun h => h)).trans b0, (hK.cell 1 hsz (fun h => h)).trans b1⟩ | exact ⟨(hfin.cell 0 hsz (by rintro (h | h) <;> omega)).trans b0, (hfin.cell 1 hsz (by rintro (h | h) <;> omega)).trans b1⟩)
    (first | (go_at_call 23; refine (at_gen 0 pb 2 c P R _ _ (by omega) (by omega) (by omega) (hP'.only hK (fun h => h)) hR).mono ?_; rintro e w' ⟨rfl, hb⟩; replace hK := hK.trans (Below.only hb); clear hb) | (go_at_call 22; refine (moveTo22 zb bb W H fx fy px py (R 0) (R 1) b _ (hras'.only hK (fun h => h) (fun h => h))).mono ?_; rintro e w' ⟨rfl, hr, ho⟩; have hfin := (hK.mono (T := Duo zb bb) (fun _ h => h.elim)).trans ho))
  all_goals
    go_wp2
    go_end0
    exact ⟨rfl, hr, (hO.mono (fun _ h => h.elim)).trans hfin⟩
set_option maxHeartbeats 1000000 in
theorem call_quad (zb bb W H fx fy px py : Nat) (b : Nat → Nat) (pb c : Nat) (P : Nat → Int) (R : Nat → Nat) (w : World)
    (hras : Ras w zb bb W H fx fy px py b) (hP : Held w pb 4 P) (hR : ∀ i, i < 4 → coord (P i) = some (R i)) (hW : 1 ≤ W) (hW2 : W ≤ 64) (hH : H ≤ 64) (b' : Nat → Nat) (hq : quadTo W H px py (R 0) (R 1) (R 2) (R 3) b = some b') :
    Calls Try.prog 14 #[.pointer (some ⟨zb, 0, none⟩), .agg #[.int .i64 2, .slice (some ⟨pb, 0, none⟩) 4 c]] w fun e w' =>
      e = .returned (.tuple #[]) ∧ Ras w' zb bb W H fx fy (R 2) (R 3) b' ∧ Only (Duo zb bb) w w' := by
  have hpb : pb < w.heap.size := World.block_lt_of_cell? w _ (hP 0 (by omega))
  have hzb : zb < w.heap.size := by obtain ⟨u, hz⟩ := hras.z; exact (Array.getElem?_eq_some_iff.1 hz).1
  have hbb : bb < w.heap.size := (Array.getElem?_eq_some_iff.1 hras.buf).1
  go_enter Try.func14, Try.ntmps14
  go_wp2
  have hbox : (w.alloc (Obj.cells #[Value.int IntKind.i64 2, Value.slice (some ⟨pb, 0, none⟩) 4 c] 30)).cell? ⟨w.heap.size, 0, none⟩ = some (.int .i64 2) ∧
      (w.alloc (Obj.cells #[Value.int IntKind.i64 2, Value.slice (some ⟨pb, 0, none⟩) 4 c] 30)).cell? ⟨w.heap.size, 1, none⟩ = some (.slice (some ⟨pb, 0, none⟩) 4 c) := by
    constructor <;> go_simp
  have hO : Only Nix w (w.alloc (Obj.cells #[Value.int IntKind.i64 2, Value.slice (some ⟨pb, 0, none⟩) 4 c] 30)) := (Only.refl _ w).alloc _
  have hsz : w.heap.size < (w.alloc (Obj.cells #[Value.int IntKind.i64 2, Value.slice (some ⟨pb, 0, none⟩) 4 c] 30)).heap.size := by simp
  generalize w.alloc (Obj.cells #[Value.int IntKind.i64 2, Value.slice (some ⟨pb, 0, none⟩) 4 c] 30) = WA at hbox hO hsz ⊢
  have hP' := hP.only hO (fun h => h)
  have hras' := hras.only hO (fun h => h) (fun h => h)
  have hN : w.heap.size ≠ zb ∧ w.heap.size ≠ bb := by omega
  generalize w.heap.size = N at hbox hsz hN ⊢
  obtain ⟨b0, b1⟩ := hbox
  have hK : Only Nix WA WA.drew := (Only.refl _ _).drew
  clear hP hras hpb hzb hbb
  go_region_held3 (fun w' => w'.cell? ⟨N, 0, none⟩ = some (.int .i64 2) ∧ w'.cell? ⟨N, 1, none⟩ = some (.slice (some ⟨pb, 0, none⟩) 4 c))
    (first | go_keep | exact ⟨(hK.cell 0 hsz (fun h => h)).trans b0, (hK.cell 1 hsz (fun h => h)).trans b1⟩ | exact ⟨(hfin.cell 0 hsz (by rintro (h | h) <;> omega)).trans b0, (hfin.cell 1 hsz (by rintro (h | h) <;> omega)).trans b1⟩)
    (first | (go_at_call 23; refine (at_gen 2 pb 4 c P R _ _ (by omega) (by omega) (by omega) (hP'.only hK (fun h => h)) hR).mono ?_; rintro e w' ⟨rfl, hb⟩; replace hK := hK.trans (Below.only hb); clear hb) | (go_at_call 25; refine (quadTo25 zb bb W H fx fy px py (R 0) (R 1) (R 2) (R 3) b b' _ hW hW2 hH (hras'.only hK (fun h => h) (fun h => h)) hq).mono ?_; rintro e w' ⟨rfl, hr, ho⟩; have hfin := (hK.mono (T := Duo zb bb) (fun _ h => h.elim)).trans ho))
  all_goals
    go_wp2
    go_end0
    exact ⟨rfl, hr, (hO.mono (fun _ h => h.elim)).trans hfin⟩
set_option maxHeartbeats 1000000 in
theorem call_close (zb bb W H fx fy px py : Nat) (b : Nat → Nat) (w : World)
    (hras : Ras w zb bb W H fx fy px py b) (hW : 1 ≤ W) (hW2 : W ≤ 64) (hH : H ≤ 64) (b' : Nat → Nat) (hq : lineTo W H px py fx fy b = some b') :
    Calls Try.prog 14 #[.pointer (some ⟨zb, 0, none⟩), .agg #[.int .i64 4, .slice none 0 0]] w fun e w' =>
      e = .returned (.tuple #[]) ∧ Ras w' zb bb W H fx fy fx fy b' ∧ Only (Duo zb bb) w w' := by
  have hO : Only Nix w (w.alloc (Obj.cells #[Value.int IntKind.i64 4, Value.slice none 0 0] 30)) := (Only.refl _ w).alloc _
  have hras' := hras.only hO (fun h => h) (fun h => h)
  go_enter Try.func14, Try.ntmps14
  go_wp2_with (go_at_call 27; refine (close27 zb bb W H fx fy px py b b' _ hW hW2 hH hras' hq).mono ?_; rintro e w' ⟨rfl, hr, ho⟩)
  go_end0
  exact ⟨rfl, hr, (hO.mono (fun _ h => h.elim)).trans ho⟩
end Go.Proofs.Ytmgcbodlolnheaa
