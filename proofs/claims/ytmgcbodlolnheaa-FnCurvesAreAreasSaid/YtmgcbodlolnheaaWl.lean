/- The walks of Curve and Polygon. -/
import Derived.Test.YtmgcbodlolnheaaWk
import Derived.Deep.AppendLies
namespace Go.Proofs.Ytmgcbodlolnheaa
open Go.RowKit

theorem Try.info31 : (Try.prog.info? 31).map (fun i => (i.zero, i.size, i.bytes)) = some (some (.agg #[.int .i64 0, .int .i64 0]), 2, 16) := by kernel_rfl

def ptCells (l : List (Int × Int)) : List Value := l.flatMap fun q => [.int .i64 q.1, .int .i64 q.2]

def crv (x y : Nat → Int) (k : Nat) : Int × Int := (psum x k 3, psum y k 3)

def CurveRel (w : World) (x y : Nat → Int) (s5 s9 : Value) (wx : World) : Prop :=
  ∃ k : Nat, s9 = .int .i64 k ∧ k ≤ 65 ∧ wx.ownsRow w.heap.size 31 2 s5 k (ptCells ((List.range k).map (crv x y))) ∧ Below w.heap.size w wx

theorem below_grown {w w' : World} (h : Below w.heap.size w w') : w.grownBy w' none := ⟨h.os, h.tape, h.output, h.size, fun k hk _ => h.block k hk⟩

set_option maxRecDepth 100000 in
set_option maxHeartbeats 4000000 in
theorem curve8 (pb po c : Nat) (x y : Nat → Int) (w : World) (hc : 3 ≤ c)
    (q0 : w.cell? ⟨pb, po, none⟩ = some (.int .i64 (x 0))) (q1 : w.cell? ⟨pb, po + 2, none⟩ = some (.int .i64 (x 1))) (q2 : w.cell? ⟨pb, po + 4, none⟩ = some (.int .i64 (x 2)))
    (r0 : w.cell? ⟨pb, po + 1, none⟩ = some (.int .i64 (y 0))) (r1 : w.cell? ⟨pb, po + 2 + 1, none⟩ = some (.int .i64 (y 1))) (r2 : w.cell? ⟨pb, po + 4 + 1, none⟩ = some (.int .i64 (y 2)))
    (hx : ∀ j, j < 3 → -8192 ≤ x j ∧ x j ≤ 8192) (hy : ∀ j, j < 3 → -8192 ≤ y j ∧ y j ≤ 8192) :
    Calls Try.prog 8 #[.slice (some ⟨pb, po, none⟩) 3 c, .int .i64 64] w fun e w' => ∃ g cap, e = .returned (.slice (some ⟨g, 0, none⟩) 65 cap) ∧
      w'.ownsRow w.heap.size 31 2 (.slice (some ⟨g, 0, none⟩) 65 cap) 65 (ptCells ((List.range 65).map (crv x y))) ∧ Below w.heap.size w w' := by
  have hpb : pb < w.heap.size := World.block_lt_of_cell? w _ q0
  obtain ⟨i0, hi, hz0, hz1, hz2⟩ := info_parts Try.info31
  go_enter Try.func8, Try.ntmps8
  go_wp2
  go_loopw [5, 9] (fun s5 s9 wx => CurveRel w x y s5 s9 wx) (fun _ s9 _ => 65 - (intOf s9).toNat)
  case atStart => exact ⟨0, rfl, by omega, World.ownsRow_nil _ _ _ _, Below.refl _ _⟩
  case round =>
    obtain ⟨k, rfl, hk, hown, hb⟩ := hrel
    by_cases hlt : k < 65
    · have hlt' : decide ((k : Int) < 65) = true := by simp; omega
      have cell : ∀ {j : Nat} {v : Int}, w.cell? ⟨pb, j, none⟩ = some (.int .i64 v) → wr.cell? ⟨pb, j, none⟩ = some (.int .i64 v) := fun {j v} h => (hb.cell (p := ⟨pb, j, none⟩) hpb).trans h
      have e0 := cell q0
      have e1 := cell q1
      have e2 := cell q2
      have f0 := cell r0
      have f1 := cell r1
      have f2 := cell r2
      have hpbr : pb < wr.heap.size := Nat.lt_of_lt_of_le hpb hb.size
      clear cell q0 q1 q2 r0 r1 r2
      go_wp2_with fail
      refine (point18_0 pb po c x k _ (by omega) hc e0 e1 e2 hx).mono ?_
      rintro e w1 ⟨rfl, hb1⟩
      go_wp2_with fail
      refine (point18_1 pb po c y k _ (by omega) hc ((hb1.cell (p := ⟨pb, po + 1, none⟩) hpbr).trans f0) ((hb1.cell (p := ⟨pb, po + 2 + 1, none⟩) hpbr).trans f1) ((hb1.cell (p := ⟨pb, po + 4 + 1, none⟩) hpbr).trans f2) hy).mono ?_
      rintro e w2 ⟨rfl, hb2⟩
      have hb12 : Below wr.heap.size wr w2 := hb1.trans (hb2.mono hb1.size)
      have hown2 := hown.kept (below_grown hb12) (by cases h : u5.ownBlock <;> simp)
      have hbw2 : Below w.heap.size w w2 := hb.trans (hb12.mono hb.size)
      clear hb1 hb2 hb12 hown hb e0 e1 e2 f0 f1 f2
      have hn : ∀ j u, [Value.int .i64 (psum x k 3), .int .i64 (psum y k 3)][j]? = some u → (w2.alloc (.cells #[Value.int .i64 (psum x k 3), .int .i64 (psum y k 3)] 31)).cell? ((⟨w2.heap.size, 0, none⟩ : Addr).add j) = some u :=
        World.news_of_block (heap_alloc_new w2 _)
      have h1 : ∀ u ∈ [Value.int .i64 (psum x k 3), .int .i64 (psum y k 3)], u.oneCell' = true := by simp [Value.oneCell']
      have h63 : k + 1 ≤ maxLen := by unfold maxLen; omega
      have hba : w.heap.size ≤ (w2.alloc (.cells #[Value.int .i64 (psum x k 3), .int .i64 (psum y k 3)] 31)).heap.size := Nat.le_trans hbw2.size (by simp)
      have HN := Lib.hid hn
      have H1 := Lib.hid h1
      clear hn h1
      go_wp2_with (at_builtin; refine wpList_append_lies _ rfl _ _ 22 rfl w.heap.size 31 i0 _ 2 16 Try.underlying22 hi hz0 hz1 hz2 rfl (by decide) _ k _ rfl (hown2.alloc _) ⟨w2.heap.size, 0, none⟩ 1 1 [.int .i64 (psum x k 3), .int .i64 (psum y k 3)] rfl rfl HN.out H1.out (by omega) h63 (by omega) hba (w2.heap.size + 1) (by simp) ?_; intro g cap w3 hown3 hgrow hat hltg)
      have hbw3 : Below w.heap.size w w3 := (hbw2.alloc hbw2.size _).grown hgrow hba (fun j hj => (hown2.lt j hj).1)
      have hown4 : w3.ownsRow w.heap.size 31 2 (.slice (some ⟨g, 0, none⟩) (k + 1) cap) (k + 1) (ptCells ((List.range (k + 1)).map (crv x y))) := by
        have e : ptCells ((List.range (k + 1)).map (crv x y)) = ptCells ((List.range k).map (crv x y)) ++ [.int .i64 (psum x k 3), .int .i64 (psum y k 3)] := by
          unfold ptCells
          rw [List.range_succ, List.map_append, List.flatMap_append]
          rfl
        rw [e]; exact hown3
      go_roundw
      case rel => exact ⟨k + 1, by go_num, hlt, hown4, hbw3⟩
      case measure => simp [intOf]; omega
    · obtain rfl : k = 65 := by omega
      have hform := hown.form (by omega)
      obtain ⟨g, cap, rfl, _, _⟩ := hform
      go_wp2
      go_ret
      exact ⟨g, cap, rfl, hown, hb⟩

theorem Try.info50 : (Try.prog.info? 50).map (fun i => (i.zero, i.size, i.bytes)) = some (some (.agg #[.int .i64 0, .int .i64 0, .int .i64 0, .int .i64 0]), 4, 32) := by kernel_rfl

def edCells (l : List Edge) : List Value := l.flatMap fun e => [.int .i64 e.x0, .int .i64 e.y0, .int .i64 e.x1, .int .i64 e.y1]
def edgeAt (l : List (Int × Int)) (i : Nat) : Edge := ⟨(l.getD i (0, 0)).1, (l.getD i (0, 0)).2, (l.getD ((i + 1) % l.length) (0, 0)).1, (l.getD ((i + 1) % l.length) (0, 0)).2⟩
theorem polygonP_eq (l : List (Int × Int)) : polygonP l = (List.range l.length).map (edgeAt l) := rfl

def PolyRel (w : World) (l : List (Int × Int)) (s3 s9 : Value) (wx : World) : Prop :=
  ∃ k : Nat, s9 = .int .i64 k ∧ k ≤ l.length ∧ wx.ownsRow w.heap.size 50 4 s3 k (edCells ((List.range k).map (edgeAt l))) ∧ Below w.heap.size w wx

set_option maxRecDepth 100000 in
set_option maxHeartbeats 4000000 in
theorem polygon7 (pb po c : Nat) (l : List (Int × Int)) (w : World) (hl0 : 1 ≤ l.length) (hl : l.length ≤ 1000) (hp : Pts w pb po l) :
    Calls Try.prog 7 #[.slice (some ⟨pb, po, none⟩) l.length c] w fun e w' => ∃ g cap, e = .returned (.slice (some ⟨g, 0, none⟩) l.length cap) ∧
      w'.ownsRow w.heap.size 50 4 (.slice (some ⟨g, 0, none⟩) l.length cap) l.length (edCells (polygonP l)) ∧ Below w.heap.size w w' := by
  have hpb : pb < w.heap.size := World.block_lt_of_cell? w _ (hp 0 (by omega)).1
  obtain ⟨i0, hi, hz0, hz1, hz2⟩ := info_parts Try.info50
  go_enter Try.func7, Try.ntmps7
  go_wp2
  go_loopw [3, 9] (fun s3 s9 wx => PolyRel w l s3 s9 wx) (fun _ s9 _ => l.length - (intOf s9).toNat)
  case atStart => exact ⟨0, rfl, by omega, World.ownsRow_nil _ _ _ _, Below.refl _ _⟩
  case round =>
    obtain ⟨k, rfl, hk, hown, hb⟩ := hrel
    by_cases hlt : k < l.length
    · have hlt' : decide ((k : Int) < l.length) = true := by simp; omega
      have hmod : (k + 1) % l.length < l.length := Nat.mod_lt _ (by omega)
      have e0 := (hb.cell (p := ⟨pb, po + k * 2, none⟩) hpb).trans (hp k hlt).1
      have e1 := (hb.cell (p := ⟨pb, po + k * 2 + 1, none⟩) hpb).trans (hp k hlt).2
      have f0 := (hb.cell (p := ⟨pb, po + (k + 1) % l.length * 2, none⟩) hpb).trans (hp _ hmod).1
      have f1 := (hb.cell (p := ⟨pb, po + (k + 1) % l.length * 2 + 1, none⟩) hpb).trans (hp _ hmod).2
      have hpbr : pb < wr.heap.size := Nat.lt_of_lt_of_le hpb hb.size
      have hed : edgeAt l k = ⟨(l.getD k (0, 0)).1, (l.getD k (0, 0)).2, (l.getD ((k + 1) % l.length) (0, 0)).1, (l.getD ((k + 1) % l.length) (0, 0)).2⟩ := rfl
      generalize (l.getD k (0, 0)).1 = x0 at e0 hed
      generalize (l.getD k (0, 0)).2 = y0 at e1 hed
      generalize (l.getD ((k + 1) % l.length) (0, 0)).1 = x1 at f0 hed
      generalize (l.getD ((k + 1) % l.length) (0, 0)).2 = y1 at f1 hed
      have hmodI : ((k : Int) + 1).tmod (l.length : Int) = (((k + 1) % l.length : Nat) : Int) := by
        rw [Int.tmod_eq_emod_of_nonneg (by omega)]; exact (Int.natCast_emod (k + 1) l.length).symm
      have hne : ¬ (l.length = 0) := by omega
      generalize hm : (k + 1) % l.length = m at *
      have HED := Lib.hid hed
      have HM := Lib.hid hm
      clear hm hed
      have hn : ∀ j u, [Value.int .i64 x0, .int .i64 y0, .int .i64 x1, .int .i64 y1][j]? = some u →
          (((wr.alloc (.cells #[Value.int .i64 x0, .int .i64 y0] 31)).alloc (.cells #[Value.int .i64 x1, .int .i64 y1] 31)).alloc (.cells #[Value.int .i64 x0, .int .i64 y0, .int .i64 x1, .int .i64 y1] 50)).cell? ((⟨wr.heap.size + 1 + 1, 0, none⟩ : Addr).add j) = some u := by
        have := heap_alloc_new ((wr.alloc (.cells #[Value.int .i64 x0, .int .i64 y0] 31)).alloc (.cells #[Value.int .i64 x1, .int .i64 y1] 31)) (.cells #[Value.int .i64 x0, .int .i64 y0, .int .i64 x1, .int .i64 y1] 50)
        simp only [World.size_alloc] at this
        exact World.news_of_block this
      have h1 : ∀ u ∈ [Value.int .i64 x0, .int .i64 y0, .int .i64 x1, .int .i64 y1], u.oneCell' = true := by simp [Value.oneCell']
      have h63 : k + 1 ≤ maxLen := by unfold maxLen; omega
      have hbw2 : Below w.heap.size w (((wr.alloc (.cells #[Value.int .i64 x0, .int .i64 y0] 31)).alloc (.cells #[Value.int .i64 x1, .int .i64 y1] 31)).alloc (.cells #[Value.int .i64 x0, .int .i64 y0, .int .i64 x1, .int .i64 y1] 50)) :=
        ((hb.alloc hb.size _).alloc (Nat.le_trans hb.size (by simp)) _).alloc (Nat.le_trans hb.size (by simp; omega)) _
      have HN := Lib.hid hn
      have H1 := Lib.hid h1
      clear hn h1
      have hba := hbw2.size
      have hown2 := ((hown.alloc (.cells #[Value.int .i64 x0, .int .i64 y0] 31)).alloc (.cells #[Value.int .i64 x1, .int .i64 y1] 31)).alloc (.cells #[Value.int .i64 x0, .int .i64 y0, .int .i64 x1, .int .i64 y1] 50)
      clear hown hb
      go_wp2_with (at_builtin; refine wpList_append_lies _ rfl _ _ 24 rfl w.heap.size 50 i0 _ 4 32 Try.underlying24 hi hz0 hz1 hz2 rfl (by decide) _ k _ rfl hown2 ⟨wr.heap.size + 1 + 1, 0, none⟩ 1 1 [.int .i64 x0, .int .i64 y0, .int .i64 x1, .int .i64 y1] rfl rfl HN.out H1.out (by omega) h63 (by omega) hba (wr.heap.size + 1 + 1 + 1) (by simp) ?_; intro g cap w3 hown3 hgrow hat hltg)
      have hbw3 : Below w.heap.size w w3 := hbw2.grown hgrow hba (fun j hj => (hown2.lt j hj).1)
      have hown4 : w3.ownsRow w.heap.size 50 4 (.slice (some ⟨g, 0, none⟩) (k + 1) cap) (k + 1) (edCells ((List.range (k + 1)).map (edgeAt l))) := by
        have e : edCells ((List.range (k + 1)).map (edgeAt l)) = edCells ((List.range k).map (edgeAt l)) ++ [.int .i64 x0, .int .i64 y0, .int .i64 x1, .int .i64 y1] := by
          unfold edCells
          rw [List.range_succ, List.map_append, List.flatMap_append]
          simp only [List.map_cons, List.map_nil, List.flatMap_cons, List.flatMap_nil, HED.out]
          rfl
        rw [e]; exact hown3
      go_roundw
      case rel => exact ⟨k + 1, by go_num, hlt, hown4, hbw3⟩
      case measure => simp [intOf]; omega
    · obtain rfl : k = l.length := by omega
      have hlt' : decide ((l.length : Int) < l.length) = false := by simp
      have hform := hown.form (by omega)
      obtain ⟨g, cap, rfl, _, _⟩ := hform
      go_wp2
      go_ret
      exact ⟨g, cap, rfl, hown, hb⟩
end Go.Proofs.Ytmgcbodlolnheaa
