/- The walk of several, its sizes being in bounds. -/
import Derived.Test.YtmgcbodlolnheaaWm
namespace Go.Proofs.Ytmgcbodlolnheaa
open Go.RowKit

theorem edCells_one (l : List Edge) : ∀ u ∈ edCells l, u.oneCell' = true := by
  intro u hu
  unfold edCells at hu
  rw [List.mem_flatMap] at hu
  obtain ⟨e, _, he⟩ := hu
  simp at he
  rcases he with rfl | rfl | rfl | rfl <;> rfl

set_option maxRecDepth 100000 in
set_option maxHeartbeats 4000000 in
theorem several_no (W H : Int) (lb : Nat) (pv : Value) (w : World) (hs : sizedB W H = true) (hW0 : 1 ≤ W) (hH0 : 1 ≤ H) (hW : W ≤ 200) (hH : H ≤ 200)
    (hlc : w.cell? ⟨lb, 0, none⟩ = some pv) (hw10 : Calls Try.prog 10 #[pv, .int .i64 (64 * (64 + imin W H))] w fun e w' => e = .returned (.bool false) ∧ Below w.heap.size w w')
    (hpv : ∃ a k c, pv = .slice a k c) :
    Calls Try.prog 4 #[.int .i64 W, .int .i64 H, .slice (some ⟨lb, 0, none⟩) 1 1] w fun e w' => (∃ a b, e = .returned (.tuple #[a, b, .bool false])) ∧ Below w.heap.size w w' := by
  obtain ⟨a, k, c, rfl⟩ := hpv
  have d1 : decide (W > 200) = false := by simp; omega
  have d1' : decide (200 < W) = false := by simp; omega
  have d2 : decide (H > 200) = false := by simp; omega
  have d2' : decide (200 < H) = false := by simp; omega
  have HS := Lib.hid hs
  have H10 := Lib.hid hw10
  clear hs hw10
  unfold imin at H10
  by_cases hHW : H < W
  · rw [if_pos hHW] at H10
    go_enter Try.func4, Try.ntmps4
    go_wp2_with fail
    refine (sized9 W H _).mono ?_
    rintro e w' ⟨rfl, rfl⟩
    rw [HS.out]
    go_wp2
    refine wp_loop_rounds 1 ?_
    rw [rounds_succ]
    go_wp2_with fail
    refine H10.out.mono ?_
    rintro e w' ⟨rfl, hb⟩
    go_wp2
    go_ret3
    exact ⟨⟨_, _, rfl⟩, hb⟩
  · rw [if_neg hHW] at H10
    go_enter Try.func4, Try.ntmps4
    go_wp2_with fail
    refine (sized9 W H _).mono ?_
    rintro e w' ⟨rfl, rfl⟩
    rw [HS.out]
    go_wp2
    refine wp_loop_rounds 1 ?_
    rw [rounds_succ]
    go_wp2_with fail
    refine H10.out.mono ?_
    rintro e w' ⟨rfl, hb⟩
    go_wp2
    go_ret3
    exact ⟨⟨_, _, rfl⟩, hb⟩

theorem pts_below {w w' : World} {pb po : Nat} {l : List (Int × Int)} (h : Pts w pb po l) (k : Below w.heap.size w w') : Pts w' pb po l := fun i hi => by
  have hpb : pb < w.heap.size := World.block_lt_of_cell? w _ (h i hi).1
  exact ⟨(k.cell (p := ⟨pb, po + i * 2, none⟩) hpb).trans (h i hi).1, (k.cell (p := ⟨pb, po + i * 2 + 1, none⟩) hpb).trans (h i hi).2⟩

theorem ret3_bool {a b : Value} {x y : Bool} (h : x = y) : Ending.returned (.tuple #[a, b, .bool x]) = .returned (.tuple #[a, b, .bool y]) := by rw [h]

set_option maxRecDepth 100000 in
set_option maxHeartbeats 8000000 in
theorem several_yes (W H : Int) (lb pb po c : Nat) (l : List (Int × Int)) (w : World) (hs : sizedB W H = true) (hW0 : 1 ≤ W) (hH0 : 1 ≤ H) (hW : W ≤ 200) (hH : H ≤ 200)
    (hlc : w.cell? ⟨lb, 0, none⟩ = some (.slice (some ⟨pb, po, none⟩) l.length c)) (hp : Pts w pb po l) (hl3 : 3 ≤ l.length) (hl : l.length ≤ 1000)
    (hw10 : Calls Try.prog 10 #[.slice (some ⟨pb, po, none⟩) l.length c, .int .i64 (64 * (64 + imin W H))] w fun e w' => e = .returned (.bool true) ∧ Below w.heap.size w w') :
    Calls Try.prog 4 #[.int .i64 W, .int .i64 H, .slice (some ⟨lb, 0, none⟩) 1 1] w fun e w' => (∃ a b, e = .returned (.tuple #[a, b, .bool (decide (l.length ≤ 12))])) ∧ Below w.heap.size w w' := by
  obtain ⟨i0, hi, hz0, hz1, hz2⟩ := info_parts Try.info30
  obtain ⟨j0, hj, hy0, hy1, hy2⟩ := info_parts Try.info50
  have d1 : decide (W > 200) = false := by simp; omega
  have d1' : decide (200 < W) = false := by simp; omega
  have d2 : decide (H > 200) = false := by simp; omega
  have d2' : decide (200 < H) = false := by simp; omega
  have HS := Lib.hid hs
  have H10 := Lib.hid hw10
  clear hs hw10
  unfold imin at H10
  by_cases hHW : H < W
  · rw [if_pos hHW] at H10
    go_enter Try.func4, Try.ntmps4
    go_wp2_with fail
    refine (sized9 W H _).mono ?_
    rintro e w' ⟨rfl, rfl⟩
    rw [HS.out]
    go_wp2
    refine wp_loop_rounds 2 ?_
    rw [rounds_succ]
    go_wp2_with fail
    refine H10.out.mono ?_
    rintro e w1 ⟨rfl, hb⟩
    have hp1 := pts_below hp hb
    by_cases h12 : l.length ≤ 12
    · have hd : decide ((l.length : Int) > 12) = false := by simp; omega
      have hd' : decide (12 < (l.length : Int)) = false := by simp; omega
      have hd'' : decide (12 < l.length) = false := by simp; omega
      go_wp2_with fail
      refine (path11 pb po c l _ (by omega) (by omega) hp1).mono ?_
      rintro e w2 ⟨g, cap, xs, rfl, hown, hone, hb2⟩
      have hlt := hown.lt g rfl
      have hnews := hown.cells (g := g) rfl
      have hp2 := pts_below hp1 hb2
      have hlen := hown.1
      have h63 : 0 + (l.length + 1) ≤ maxLen := by unfold maxLen; omega
      have HN := Lib.hid hnews
      have H1 := Lib.hid hone
      have HL := Lib.hid hlen
      have hbw2 := hb.trans (hb2.mono hb.size)
      clear hnews hone hlen hown
      go_wp2_with (at_builtin; refine wpList_append_lies _ rfl _ _ 23 rfl w2.heap.size 30 i0 _ 2 32 Try.underlying23 hi hz0 hz1 hz2 rfl (by decide) (.slice none 0 0) 0 [] rfl (World.ownsRow_nil _ _ _ _) ⟨g, 0, none⟩ (l.length + 1) cap xs rfl HL.out HN.out H1.out (by omega) h63 (by omega) (Nat.le_refl _) w2.heap.size rfl ?_; intro g2 cap2 w3 hown3 hgrow hat hltg)
      have hb3 : Below w2.heap.size w2 w3 := (Below.refl _ _).grown hgrow (Nat.le_refl _) (fun k hk => by cases hk)
      have hp3 := pts_below hp2 hb3
      have hbw3 := hbw2.trans (hb3.mono hbw2.size)
      clear hown3 hgrow hat hltg HN H1 HL
      go_wp2_with fail
      refine (polygon7 pb po c l _ (by omega) (by omega) hp3).mono ?_
      rintro e w4 ⟨g4, cap4, rfl, hown4, hb4⟩
      have hlt4 := hown4.lt g4 rfl
      have hnews4 := hown4.cells (g := g4) rfl
      have hlen4 := hown4.1
      have hone4 := edCells_one (polygonP l)
      have h634 : 0 + l.length ≤ maxLen := by unfold maxLen; omega
      have HN := Lib.hid hnews4
      have H1 := Lib.hid hone4
      have HL := Lib.hid hlen4
      have hbw4 := hbw3.trans (hb4.mono hbw3.size)
      clear hnews4 hone4 hlen4 hown4
      go_wp2_with (at_builtin; refine wpList_append_lies _ rfl _ _ 24 rfl w4.heap.size 50 j0 _ 4 32 Try.underlying24 hj hy0 hy1 hy2 rfl (by decide) (.slice none 0 0) 0 [] rfl (World.ownsRow_nil _ _ _ _) ⟨g4, 0, none⟩ l.length cap4 (edCells (polygonP l)) rfl HL.out HN.out H1.out (by omega) h634 (by omega) (Nat.le_refl _) w4.heap.size rfl ?_; intro g5 cap5 w5 hown5 hgrow5 hat5 hltg5)
      have hb5 : Below w4.heap.size w4 w5 := (Below.refl _ _).grown hgrow5 (Nat.le_refl _) (fun k hk => by cases hk)
      have hbw5 := hbw4.trans (hb5.mono hbw4.size)
      clear hown5 hgrow5 hat5 hltg5 HN H1 HL
      rw [rounds_succ]
      go_wp2
      go_ret3
      exact ⟨⟨_, _, ret3_bool (by simpa using h12)⟩, hbw5⟩
    · have hd : decide ((l.length : Int) > 12) = true := by simp; omega
      have hd' : decide (12 < (l.length : Int)) = true := by simp; omega
      have hd'' : decide (12 < l.length) = true := by simp; omega
      go_wp2
      go_ret3
      exact ⟨⟨_, _, ret3_bool (by simpa using h12)⟩, hb⟩
  · rw [if_neg hHW] at H10
    go_enter Try.func4, Try.ntmps4
    go_wp2_with fail
    refine (sized9 W H _).mono ?_
    rintro e w' ⟨rfl, rfl⟩
    rw [HS.out]
    go_wp2
    refine wp_loop_rounds 2 ?_
    rw [rounds_succ]
    go_wp2_with fail
    refine H10.out.mono ?_
    rintro e w1 ⟨rfl, hb⟩
    have hp1 := pts_below hp hb
    by_cases h12 : l.length ≤ 12
    · have hd : decide ((l.length : Int) > 12) = false := by simp; omega
      have hd' : decide (12 < (l.length : Int)) = false := by simp; omega
      have hd'' : decide (12 < l.length) = false := by simp; omega
      go_wp2_with fail
      refine (path11 pb po c l _ (by omega) (by omega) hp1).mono ?_
      rintro e w2 ⟨g, cap, xs, rfl, hown, hone, hb2⟩
      have hlt := hown.lt g rfl
      have hnews := hown.cells (g := g) rfl
      have hp2 := pts_below hp1 hb2
      have hlen := hown.1
      have h63 : 0 + (l.length + 1) ≤ maxLen := by unfold maxLen; omega
      have HN := Lib.hid hnews
      have H1 := Lib.hid hone
      have HL := Lib.hid hlen
      have hbw2 := hb.trans (hb2.mono hb.size)
      clear hnews hone hlen hown
      go_wp2_with (at_builtin; refine wpList_append_lies _ rfl _ _ 23 rfl w2.heap.size 30 i0 _ 2 32 Try.underlying23 hi hz0 hz1 hz2 rfl (by decide) (.slice none 0 0) 0 [] rfl (World.ownsRow_nil _ _ _ _) ⟨g, 0, none⟩ (l.length + 1) cap xs rfl HL.out HN.out H1.out (by omega) h63 (by omega) (Nat.le_refl _) w2.heap.size rfl ?_; intro g2 cap2 w3 hown3 hgrow hat hltg)
      have hb3 : Below w2.heap.size w2 w3 := (Below.refl _ _).grown hgrow (Nat.le_refl _) (fun k hk => by cases hk)
      have hp3 := pts_below hp2 hb3
      have hbw3 := hbw2.trans (hb3.mono hbw2.size)
      clear hown3 hgrow hat hltg HN H1 HL
      go_wp2_with fail
      refine (polygon7 pb po c l _ (by omega) (by omega) hp3).mono ?_
      rintro e w4 ⟨g4, cap4, rfl, hown4, hb4⟩
      have hlt4 := hown4.lt g4 rfl
      have hnews4 := hown4.cells (g := g4) rfl
      have hlen4 := hown4.1
      have hone4 := edCells_one (polygonP l)
      have h634 : 0 + l.length ≤ maxLen := by unfold maxLen; omega
      have HN := Lib.hid hnews4
      have H1 := Lib.hid hone4
      have HL := Lib.hid hlen4
      have hbw4 := hbw3.trans (hb4.mono hbw3.size)
      clear hnews4 hone4 hlen4 hown4
      go_wp2_with (at_builtin; refine wpList_append_lies _ rfl _ _ 24 rfl w4.heap.size 50 j0 _ 4 32 Try.underlying24 hj hy0 hy1 hy2 rfl (by decide) (.slice none 0 0) 0 [] rfl (World.ownsRow_nil _ _ _ _) ⟨g4, 0, none⟩ l.length cap4 (edCells (polygonP l)) rfl HL.out HN.out H1.out (by omega) h634 (by omega) (Nat.le_refl _) w4.heap.size rfl ?_; intro g5 cap5 w5 hown5 hgrow5 hat5 hltg5)
      have hb5 : Below w4.heap.size w4 w5 := (Below.refl _ _).grown hgrow5 (Nat.le_refl _) (fun k hk => by cases hk)
      have hbw5 := hbw4.trans (hb5.mono hbw4.size)
      clear hown5 hgrow5 hat5 hltg5 HN H1 HL
      rw [rounds_succ]
      go_wp2
      go_ret3
      exact ⟨⟨_, _, ret3_bool (by simpa using h12)⟩, hbw5⟩
    · have hd : decide ((l.length : Int) > 12) = true := by simp; omega
      have hd' : decide (12 < (l.length : Int)) = true := by simp; omega
      have hd'' : decide (12 < l.length) = true := by simp; omega
      go_wp2
      go_ret3
      exact ⟨⟨_, _, ret3_bool (by simpa using h12)⟩, hb⟩
end Go.Proofs.Ytmgcbodlolnheaa
