/- The walk of MaskBy. -/
import Derived.Test.YtmgcbodlolnheaaWh
namespace Go.Proofs.Ytmgcbodlolnheaa
open Go.RowKit

/-- The three calls lie in memory. -/
structure Ops (w : World) (ob pb0 c0 pb1 c1 : Nat) (P0 P1 : Nat → Int) : Prop where
  o0 : w.cell? ⟨ob, 0, none⟩ = some (.int .i64 0)
  o1 : w.cell? ⟨ob, 1, none⟩ = some (.slice (some ⟨pb0, 0, none⟩) 2 c0)
  o2 : w.cell? ⟨ob, 2, none⟩ = some (.int .i64 2)
  o3 : w.cell? ⟨ob, 3, none⟩ = some (.slice (some ⟨pb1, 0, none⟩) 4 c1)
  o4 : w.cell? ⟨ob, 4, none⟩ = some (.int .i64 4)
  o5 : w.cell? ⟨ob, 5, none⟩ = some (.slice none 0 0)
  p0 : Held w pb0 2 P0
  p1 : Held w pb1 4 P1

theorem Held.below {w w' : World} {pb n : Nat} {P : Nat → Int} (h : Held w pb n P) (k : Below w.heap.size w w') : Held w' pb n P := fun i hi => by
  have := h i hi
  rw [k.cell (p := ⟨pb, i, none⟩) (World.block_lt_of_cell? w ⟨pb, i, none⟩ this)]; exact this

theorem Ops.below {w w' : World} {ob pb0 c0 pb1 c1 : Nat} {P0 P1 : Nat → Int} (h : Ops w ob pb0 c0 pb1 c1 P0 P1) (k : Below w.heap.size w w') : Ops w' ob pb0 c0 pb1 c1 P0 P1 := by
  have hob : ob < w.heap.size := World.block_lt_of_cell? w _ h.o0
  exact ⟨(k.cell (p := ⟨ob, 0, none⟩) hob).trans h.o0, (k.cell (p := ⟨ob, 1, none⟩) hob).trans h.o1, (k.cell (p := ⟨ob, 2, none⟩) hob).trans h.o2,
    (k.cell (p := ⟨ob, 3, none⟩) hob).trans h.o3, (k.cell (p := ⟨ob, 4, none⟩) hob).trans h.o4, (k.cell (p := ⟨ob, 5, none⟩) hob).trans h.o5, h.p0.below k, h.p1.below k⟩

/-- The rasterizer ahead of call i. -/
def MaskAt (zb bb W H : Nat) (R0 R1 : Nat → Nat) (b1 b2 : Nat → Nat) (i : Nat) (wx : World) : Prop :=
  (i = 0 ∧ Ras wx zb bb W H 0 0 0 0 (fun _ => 0)) ∨ (i = 1 ∧ Ras wx zb bb W H (R0 0) (R0 1) (R0 0) (R0 1) (fun _ => 0)) ∨
  (i = 2 ∧ Ras wx zb bb W H (R0 0) (R0 1) (R1 2) (R1 3) b1) ∨ (i = 3 ∧ Ras wx zb bb W H (R0 0) (R0 1) (R0 0) (R0 1) b2)

def MaskRel (w : World) (zb bb W H : Nat) (R0 R1 : Nat → Nat) (b1 b2 : Nat → Nat) (s20 : Value) (wx : World) : Prop :=
  ∃ i : Nat, s20 = .int .i64 i ∧ MaskAt zb bb W H R0 R1 b1 b2 i wx ∧ Below w.heap.size w wx

set_option maxRecDepth 100000 in
set_option maxHeartbeats 2000000 in
theorem maskBy5 (W H ob pb0 c0 pb1 c1 : Nat) (P0 P1 : Nat → Int) (R0 R1 : Nat → Nat) (b1 b2 : Nat → Nat) (l : List Int) (cp : Nat) (w : World) (hW : 1 ≤ W) (hW2 : W ≤ 64) (hH1 : 1 ≤ H) (hH : H ≤ 64)
    (hops : Ops w ob pb0 c0 pb1 c1 P0 P1) (hR0 : ∀ i, i < 2 → coord (P0 i) = some (R0 i)) (hR1 : ∀ i, i < 4 → coord (P1 i) = some (R1 i))
    (hq : quadTo W H (R0 0) (R0 1) (R1 0) (R1 1) (R1 2) (R1 3) (fun _ => 0) = some b1) (hc : lineTo W H (R1 2) (R1 3) (R0 0) (R0 1) b1 = some b2)
    (hacc : accum b2 (W * H) 0 0 = some l) :
    Calls Try.prog 5 #[.bool true, .int .i64 W, .int .i64 H, .slice (some ⟨ob, 0, none⟩) 3 cp] w fun e w' => ∃ db, w.heap.size ≤ db ∧ e = .returned (.slice (some ⟨db, 0, none⟩) (W * H) (W * H)) ∧
      w'.heap[db]? = some (.cells (byteCells l).toArray 5 (0, 0)) ∧ Below w.heap.size w w' := by
  have HQ := Lib.hid hq
  have HC := Lib.hid hc
  have HA := Lib.hid hacc
  have HR0 := Lib.hid hR0
  have HR1 := Lib.hid hR1
  clear hq hc hacc hR0 hR1
  go_enter Try.func5, Try.ntmps5
  go_wp2_with fail
  refine (new12 W H _ hW hW2 hH1 hH).mono ?_
  rintro e w1 ⟨rfl, ⟨u, hz⟩, hb1⟩
  go_wp2_with fail
  refine (zzuse13 w.heap.size W H 0 0 0 0 u (.bool false) _ hW hW2 hH1 hH ⟨_, rfl⟩ hz).mono ?_
  rintro e w2 ⟨rfl, ⟨bb, hbb, hras⟩, ho⟩
  have hb2 : Below w.heap.size w w2 := hb1.trans (ho.below (fun k hk => by omega) hb1.size)
  have hbbw : w.heap.size ≤ bb := Nat.le_trans hb1.size hbb
  clear hz hb1 ho hbb
  generalize hzb : w.heap.size = zb at hras ⊢
  have HZB := Lib.hid hzb
  clear hzb
  go_wp2
  go_loopw [20] (fun s20 wx => MaskRel w zb bb W H R0 R1 b1 b2 s20 wx) (fun s20 _ => 3 - (intOf s20).toNat)
  case atStart => exact ⟨0, rfl, .inl ⟨rfl, hras⟩, hb2⟩
  case round =>
    obtain ⟨i, rfl, hat, hb⟩ := hrel
    clear hras hb2
    have hops' := hops.below hb
    rcases hat with ⟨rfl, hr⟩ | ⟨rfl, hr⟩ | ⟨rfl, hr⟩ | ⟨rfl, hr⟩
    · have e0 := hops'.o0
      have e1 := hops'.o1
      have hoB : ob < wr.heap.size := World.block_lt_of_cell? wr _ e0
      have hO : Only Nix wr (wr.alloc (Obj.cells #[Value.int .i64 0, Value.slice (some ⟨pb0, 0, none⟩) 2 c0] 30)) := (Only.refl _ wr).alloc _
      have hr' := hr.only hO (fun h => h) (fun h => h)
      have hP := hops'.p0.only hO (fun h => h)
      clear hops' hr
      go_wp2_with (go_at_call 14; refine (call_move zb bb W H 0 0 0 0 (fun _ => 0) pb0 c0 P0 R0 _ hr' hP HR0.out).mono ?_; rintro e w' ⟨rfl, hr2, ho2⟩)
      go_roundw
      case rel =>
        have hz := HZB.out
        exact ⟨1, rfl, .inr (.inl ⟨rfl, hr2⟩), hb.trans ((hO.below (B := w.heap.size) (fun k hk => hk.elim) hb.size).trans (ho2.below (fun k hk => by rcases hk with h | h <;> omega) (Nat.le_trans hb.size hO.size)))⟩
      case measure => simp [intOf]
    · have e0 := hops'.o2
      have e1 := hops'.o3
      have hoB : ob < wr.heap.size := World.block_lt_of_cell? wr _ e0
      have hO : Only Nix wr (wr.alloc (Obj.cells #[Value.int .i64 2, Value.slice (some ⟨pb1, 0, none⟩) 4 c1] 30)) := (Only.refl _ wr).alloc _
      have hr' := hr.only hO (fun h => h) (fun h => h)
      have hP := hops'.p1.only hO (fun h => h)
      clear hops' hr
      go_wp2_with (go_at_call 14; refine (call_quad zb bb W H (R0 0) (R0 1) (R0 0) (R0 1) (fun _ => 0) pb1 c1 P1 R1 _ hr' hP HR1.out hW hW2 hH b1 HQ.out).mono ?_; rintro e w' ⟨rfl, hr2, ho2⟩)
      go_roundw
      case rel =>
        have hz := HZB.out
        exact ⟨2, rfl, .inr (.inr (.inl ⟨rfl, hr2⟩)), hb.trans ((hO.below (B := w.heap.size) (fun k hk => hk.elim) hb.size).trans (ho2.below (fun k hk => by rcases hk with h | h <;> omega) (Nat.le_trans hb.size hO.size)))⟩
      case measure => simp [intOf]
    · have e0 := hops'.o4
      have e1 := hops'.o5
      have hoB : ob < wr.heap.size := World.block_lt_of_cell? wr _ e0
      have hO : Only Nix wr (wr.alloc (Obj.cells #[Value.int .i64 4, Value.slice none 0 0] 30)) := (Only.refl _ wr).alloc _
      have hr' := hr.only hO (fun h => h) (fun h => h)
      clear hops' hr
      go_wp2_with (go_at_call 14; refine (call_close zb bb W H (R0 0) (R0 1) (R1 2) (R1 3) b1 _ hr' hW hW2 hH b2 HC.out).mono ?_; rintro e w' ⟨rfl, hr2, ho2⟩)
      go_roundw
      case rel =>
        have hz := HZB.out
        exact ⟨3, rfl, .inr (.inr (.inr ⟨rfl, hr2⟩)), hb.trans ((hO.below (B := w.heap.size) (fun k hk => hk.elim) hb.size).trans (ho2.below (fun k hk => by rcases hk with h | h <;> omega) (Nat.le_trans hb.size hO.size)))⟩
      case measure => simp [intOf]
    · clear hops'
      go_wp2_with (go_at_call 15; refine (zzmask15 zb bb W H (R0 0) (R0 1) (R0 0) (R0 1) b2 l _ hW2 hH hr HA.out).mono ?_; rintro e w' ⟨db, hdb, rfl, hd, hbd⟩)
      go_ret
      exact ⟨db, Nat.le_trans hb.size hdb, rfl, hd, hb.trans (hbd.mono hb.size)⟩
end Go.Proofs.Ytmgcbodlolnheaa
