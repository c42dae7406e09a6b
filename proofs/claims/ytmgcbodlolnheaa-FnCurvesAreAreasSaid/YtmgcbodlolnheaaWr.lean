/- The walk of FnCurvesAreAreas. -/
import Derived.Test.YtmgcbodlolnheaaWs
namespace Go.Proofs.Ytmgcbodlolnheaa
open Go.RowKit

/-- What the plain law says of three points. -/
def LawAt (W H : Nat) (x y : Nat → Int) : Prop :=
  ∃ (rx ry : Nat → Nat) (b1 b2 : Nat → Nat) (l : List Int), (∀ i, i < 3 → coord (x i) = some (rx i)) ∧ (∀ i, i < 3 → coord (y i) = some (ry i)) ∧
    quadTo W H (rx 0) (ry 0) (rx 1) (ry 1) (rx 2) (ry 2) (fun _ => 0) = some b1 ∧ lineTo W H (rx 2) (ry 2) (rx 0) (ry 0) b1 = some b2 ∧ accum b2 (W * H) 0 0 = some l ∧
    ∀ px py, px < W → py < H → NearR l (polygonP ((List.range 65).map (crv x y))) W px py

def BigLaw : Prop := ∀ (W H : Nat) (x y : Nat → Int), 1 ≤ W → W ≤ 64 → 1 ≤ H → H ≤ 64 →
  (∀ j, j < 3 → -(64 * (64 + imin W H)) ≤ x j ∧ x j ≤ 64 * (64 + imin W H)) → (∀ j, j < 3 → -(64 * (64 + imin W H)) ≤ y j ∧ y j ≤ 64 * (64 + imin W H)) → LawAt W H x y

set_option maxRecDepth 100000 in
set_option maxHeartbeats 4000000 in
theorem curves_big (W H : Int) (a : Option Addr) (n c : Nat) (w : World) (h : (sizedB W H && decide (W ≤ 200) && decide (H ≤ 200)) = false) :
    Calls Try.prog 3 #[.int .i64 W, .int .i64 H, .slice a n c] w fun e w' => e = .returned (.bool true) ∧ Below w.heap.size w w' := by
  have hb := (Below.refl w.heap.size w).alloc (Nat.le_refl _) (.cells #[.slice a n c] 22)
  by_cases hl : (n : Int) > 2147483647
  · have hl' : decide ((n : Int) > 2147483647) = true := by simpa using hl
    go_enter Try.func3, Try.ntmps3
    go_wp2
    go_ret
    exact ⟨rfl, Below.refl _ _⟩
  · have hl' : decide ((n : Int) > 2147483647) = false := by simpa using hl
    go_enter Try.func3, Try.ntmps3
    go_wp2_with fail
    refine (several_big W H _ _ h).mono ?_
    rintro e w' ⟨⟨u, v, rfl⟩, rfl⟩
    go_wp2
    go_ret
    exact ⟨rfl, hb⟩

theorem sizedB_pos {W H : Int} (h : sizedB W H = true) : 1 ≤ W ∧ 1 ≤ H := by
  simp only [sizedB, Bool.and_eq_true, decide_eq_true_eq] at h
  omega

set_option maxRecDepth 100000 in
set_option maxHeartbeats 4000000 in
theorem curves_nil (W H : Int) (w : World) (hs : sizedB W H = true) (hW : W ≤ 200) (hH : H ≤ 200) :
    Calls Try.prog 3 #[.int .i64 W, .int .i64 H, .slice none 0 0] w fun e w' => e = .returned (.bool true) ∧ Below w.heap.size w w' := by
  have hb := (Below.refl w.heap.size w).alloc (Nat.le_refl _) (.cells #[.slice none 0 0] 22)
  have hlc : (w.alloc (.cells #[.slice none 0 0] 22)).cell? ⟨w.heap.size, 0, none⟩ = some (.slice none 0 0) := by rw [cell_of_row _ _ _ _ _ _ (heap_alloc_new w _)]; rfl
  obtain ⟨hW0, hH0⟩ := sizedB_pos hs
  go_enter Try.func3, Try.ntmps3
  go_wp2_with fail
  refine (several_no W H w.heap.size (.slice none 0 0) _ hs hW0 hH0 hW hH hlc ((within_nil _ _).mono ?_) ⟨none, 0, 0, rfl⟩).mono ?_
  · rintro e w' ⟨rfl, rfl⟩; exact ⟨rfl, Below.refl _ _⟩
  rintro e w' ⟨⟨u, v, rfl⟩, hb2⟩
  have hb3 := hb.trans (hb2.mono (by simp))
  go_wp2
  go_ret
  exact ⟨rfl, hb3⟩

theorem pts_alloc {w : World} {pb po : Nat} {l : List (Int × Int)} (h : Pts w pb po l) (o : Obj) : Pts (w.alloc o) pb po l := pts_below h ((Below.refl _ w).alloc (Nat.le_refl _) o)

set_option maxRecDepth 100000 in
set_option maxHeartbeats 4000000 in
theorem curves_no (W H : Int) (pb po c : Nat) (l : List (Int × Int)) (w : World) (hs : sizedB W H = true) (hW : W ≤ 200) (hH : H ≤ 200) (hlc : l.length ≤ c) (hl : l.length ≤ 2147483647) (hp : Pts w pb po l)
    (h : withinB l (64 * (64 + imin W H)) = false) :
    Calls Try.prog 3 #[.int .i64 W, .int .i64 H, .slice (some ⟨pb, po, none⟩) l.length c] w fun e w' => e = .returned (.bool true) ∧ Below w.heap.size w w' := by
  have hb := (Below.refl w.heap.size w).alloc (Nat.le_refl _) (.cells #[.slice (some ⟨pb, po, none⟩) l.length c] 22)
  have hlb : (w.alloc (.cells #[.slice (some ⟨pb, po, none⟩) l.length c] 22)).cell? ⟨w.heap.size, 0, none⟩ = some (.slice (some ⟨pb, po, none⟩) l.length c) := by rw [cell_of_row _ _ _ _ _ _ (heap_alloc_new w _)]; rfl
  obtain ⟨hW0, hH0⟩ := sizedB_pos hs
  have hm1 : 1 ≤ imin W H := by unfold imin; split <;> omega
  have hm2 : imin W H ≤ 200 := by unfold imin; split <;> omega
  have hl' : decide ((l.length : Int) > 2147483647) = false := by simp; omega
  have hw10 := within10 pb po c l (64 * (64 + imin W H)) (w.alloc (.cells #[.slice (some ⟨pb, po, none⟩) l.length c] 22)) (by omega) (by omega) hl hlc (pts_alloc hp _)
  rw [h] at hw10
  have HT := Lib.hid hw10
  clear hw10
  go_enter Try.func3, Try.ntmps3
  go_wp2_with fail
  refine (several_no W H w.heap.size _ _ hs hW0 hH0 hW hH hlb HT.out ⟨_, _, _, rfl⟩).mono ?_
  rintro e w' ⟨⟨u, v, rfl⟩, hb2⟩
  have hb3 := hb.trans (hb2.mono (by simp))
  go_wp2
  go_ret
  exact ⟨rfl, hb3⟩

theorem withinB_len {l : List (Int × Int)} {far : Int} (h : withinB l far = true) : 3 ≤ l.length ∧ l.length ≤ 1000 := by
  simp only [withinB, Bool.and_eq_true, decide_eq_true_eq] at h
  exact ⟨h.1.2, h.2⟩

set_option maxRecDepth 100000 in
set_option maxHeartbeats 4000000 in
theorem curves_off (W H : Int) (pb po c : Nat) (l : List (Int × Int)) (w : World) (hs : sizedB W H = true) (hW : W ≤ 200) (hH : H ≤ 200) (hlc : l.length ≤ c) (hp : Pts w pb po l)
    (h : withinB l (64 * (64 + imin W H)) = true) (hoff : l.length ≠ 3 ∨ 64 < W ∨ 64 < H) :
    Calls Try.prog 3 #[.int .i64 W, .int .i64 H, .slice (some ⟨pb, po, none⟩) l.length c] w fun e w' => e = .returned (.bool true) ∧ Below w.heap.size w w' := by
  have hb := (Below.refl w.heap.size w).alloc (Nat.le_refl _) (.cells #[.slice (some ⟨pb, po, none⟩) l.length c] 22)
  have hlb : (w.alloc (.cells #[.slice (some ⟨pb, po, none⟩) l.length c] 22)).cell? ⟨w.heap.size, 0, none⟩ = some (.slice (some ⟨pb, po, none⟩) l.length c) := by rw [cell_of_row _ _ _ _ _ _ (heap_alloc_new w _)]; rfl
  obtain ⟨hW0, hH0⟩ := sizedB_pos hs
  obtain ⟨hl3, hl⟩ := withinB_len h
  have hm1 : 1 ≤ imin W H := by unfold imin; split <;> omega
  have hm2 : imin W H ≤ 200 := by unfold imin; split <;> omega
  have hl' : decide ((l.length : Int) > 2147483647) = false := by simp; omega
  have hw10 := within10 pb po c l (64 * (64 + imin W H)) (w.alloc (.cells #[.slice (some ⟨pb, po, none⟩) l.length c] 22)) (by omega) (by omega) (by omega) hlc (pts_alloc hp _)
  rw [h] at hw10
  have hse := several_yes W H w.heap.size pb po c l _ hs hW0 hH0 hW hH hlb (pts_alloc hp _) hl3 hl hw10
  have HT := Lib.hid hse
  clear hw10 hse
  by_cases h12 : l.length ≤ 12
  · have e12 : decide (l.length ≤ 12) = true := by simpa using h12
    rw [e12] at HT
    by_cases h3 : l.length = 3
    · rw [h3] at HT hb hl' ⊢
      by_cases hW6 : W > 64
      · have d1 : decide (W > 64) = true := by simpa using hW6
        go_enter Try.func3, Try.ntmps3
        go_wp2_with fail
        refine HT.out.mono ?_
        rintro e w' ⟨⟨u, v, rfl⟩, hb2⟩
        have hb3 := hb.trans (hb2.mono (by simp))
        go_wp2
        go_ret
        exact ⟨rfl, hb3⟩
      · have d1 : decide (W > 64) = false := by simpa using hW6
        have d2 : decide (H > 64) = true := by simp; omega
        go_enter Try.func3, Try.ntmps3
        go_wp2_with fail
        refine HT.out.mono ?_
        rintro e w' ⟨⟨u, v, rfl⟩, hb2⟩
        have hb3 := hb.trans (hb2.mono (by simp))
        go_wp2
        go_ret
        exact ⟨rfl, hb3⟩
    · have h3' : decide ((l.length : Int) ≠ 3) = true := by simp; omega
      go_enter Try.func3, Try.ntmps3
      go_wp2_with fail
      refine HT.out.mono ?_
      rintro e w' ⟨⟨u, v, rfl⟩, hb2⟩
      have hb3 := hb.trans (hb2.mono (by simp))
      go_wp2
      go_ret
      exact ⟨rfl, hb3⟩
  · have e12 : decide (l.length ≤ 12) = false := by simpa using h12
    rw [e12] at HT
    go_enter Try.func3, Try.ntmps3
    go_wp2_with fail
    refine HT.out.mono ?_
    rintro e w' ⟨⟨u, v, rfl⟩, hb2⟩
    have hb3 := hb.trans (hb2.mono (by simp))
    go_wp2
    go_ret
    exact ⟨rfl, hb3⟩

theorem Try.info3 : (Try.prog.info? 3).map (fun i => (i.zero, i.size, i.bytes)) = some (some (.int .i64 0), 1, 8) := by kernel_rfl

def opNews (x y : Nat → Int) (k : Nat) : List Value := (List.range k).flatMap fun i => [.int .i64 (x (i + 1)), .int .i64 (y (i + 1))]

/-- The curve's call, its numbers being appended. -/
def OpAt (w : World) (ob : Nat) (x y : Nat → Int) (k : Nat) (wx : World) : Prop :=
  ∃ s, wx.heap[ob]? = some (.cells #[.int .i64 2, s] 30 (0, 0)) ∧ wx.ownsRow (ob + 1) 3 1 s (2 * k) (opNews x y k) ∧ Below w.heap.size w wx

theorem accum_length (b : Nat → Nat) : ∀ (n k a : Nat) (l : List Int), accum b n k a = some l → l.length = n := by
  intro n
  induction n with
  | zero => intro k a l h; unfold accum at h; cases h; rfl
  | succ n ih =>
    intro k a l h
    unfold accum at h
    simp only [Option.bind_eq_some_iff, Option.some.injEq] at h
    obtain ⟨a', _, u, _, l', h', rfl⟩ := h
    simp [ih _ _ _ h']

def P0of (x y : Nat → Int) (i : Nat) : Int := if i = 0 then x 0 else y 0
def P1of (x y : Nat → Int) (i : Nat) : Int := if i % 2 = 0 then x (i / 2 + 1) else y (i / 2 + 1)

theorem ops_laid (wd : World) (ob g cap : Nat) (x y : Nat → Int) (hown : wd.ownsRow (ob + 1) 3 1 (.slice (some ⟨g, 0, none⟩) 4 cap) 4 (opNews x y 2)) :
    Ops ((wd.alloc (.cells #[.int .i64 (x 0), .int .i64 (y 0)] 3)).alloc (.cells #[.int .i64 0, .slice (some ⟨wd.heap.size, 0, none⟩) 2 2, .int .i64 2, .slice (some ⟨g, 0, none⟩) 4 cap, .int .i64 4, .slice none 0 0] 30))
      (wd.heap.size + 1) wd.heap.size 2 g cap (P0of x y) (P1of x y) := by
  have h1 := heap_alloc_new (wd.alloc (.cells #[.int .i64 (x 0), .int .i64 (y 0)] 3)) (.cells #[.int .i64 0, .slice (some ⟨wd.heap.size, 0, none⟩) 2 2, .int .i64 2, .slice (some ⟨g, 0, none⟩) 4 cap, .int .i64 4, .slice none 0 0] 30)
  simp only [World.size_alloc] at h1
  have hg := hown.lt g rfl
  refine ⟨by rw [cell_of_row _ _ _ _ _ _ h1]; rfl, by rw [cell_of_row _ _ _ _ _ _ h1]; rfl, by rw [cell_of_row _ _ _ _ _ _ h1]; rfl, by rw [cell_of_row _ _ _ _ _ _ h1]; rfl, by rw [cell_of_row _ _ _ _ _ _ h1]; rfl, by rw [cell_of_row _ _ _ _ _ _ h1]; rfl, ?_, ?_⟩
  · intro i hi
    have h0 : (wd.alloc (.cells #[.int .i64 (x 0), .int .i64 (y 0)] 3)).cell? ⟨wd.heap.size, i, none⟩ = some (.int .i64 (P0of x y i)) := by
      rw [cell_of_row _ _ _ _ _ _ (heap_alloc_new wd _)]
      obtain rfl | rfl : i = 0 ∨ i = 1 := by omega
      · rfl
      · rfl
    exact (World.grownBy_alloc _ _ none).cell h0 (by simp)
  · intro i hi
    have h0 : wd.cell? ⟨g, i, none⟩ = some (.int .i64 (P1of x y i)) := by
      rw [hown.cellAt i (by omega)]
      obtain rfl | rfl | rfl | rfl : i = 0 ∨ i = 1 ∨ i = 2 ∨ i = 3 := by omega
      · rfl
      · rfl
      · rfl
      · rfl
    exact (World.grownBy_alloc _ _ none).cell ((World.grownBy_alloc _ _ none).cell h0 (by simp)) (by simp)

set_option maxRecDepth 100000 in
set_option maxHeartbeats 8000000 in
theorem curves_yes (W H : Nat) (pb po c : Nat) (l : List (Int × Int)) (x y : Nat → Int) (w : World) (hW1 : 1 ≤ W) (hH1 : 1 ≤ H) (hW : W ≤ 64) (hH : H ≤ 64) (hlc : l.length ≤ c) (hp : Pts w pb po l)
    (h : withinB l (64 * (64 + imin W H)) = true) (h3 : l.length = 3) (hxy : ∀ i, i < 3 → l.getD i (0, 0) = (x i, y i)) (hbx : ∀ j, j < 3 → -8192 ≤ x j ∧ x j ≤ 8192) (hby : ∀ j, j < 3 → -8192 ≤ y j ∧ y j ≤ 8192) (law : LawAt W H x y) :
    Calls Try.prog 3 #[.int .i64 W, .int .i64 H, .slice (some ⟨pb, po, none⟩) l.length c] w fun e w' => e = .returned (.bool true) ∧ Below w.heap.size w w' := by
  have hs : sizedB W H = true := by
    have : W * H ≤ 64 * 64 := Nat.mul_le_mul hW hH
    have h2 : (W : Int) * H ≤ 4096 := by exact_mod_cast this
    simp only [sizedB, Bool.and_eq_true, decide_eq_true_eq]
    omega
  have hb := (Below.refl w.heap.size w).alloc (Nat.le_refl _) (.cells #[.slice (some ⟨pb, po, none⟩) l.length c] 22)
  have hlb : (w.alloc (.cells #[.slice (some ⟨pb, po, none⟩) l.length c] 22)).cell? ⟨w.heap.size, 0, none⟩ = some (.slice (some ⟨pb, po, none⟩) l.length c) := by rw [cell_of_row _ _ _ _ _ _ (heap_alloc_new w _)]; rfl
  have hm1 : 1 ≤ imin W H := by unfold imin; split <;> omega
  have hm2 : imin W H ≤ 200 := by unfold imin; split <;> omega
  have hw10 := within10 pb po c l (64 * (64 + imin W H)) (w.alloc (.cells #[.slice (some ⟨pb, po, none⟩) l.length c] 22)) (by omega) (by omega) (by omega) hlc (pts_alloc hp _)
  rw [h] at hw10
  have hse := several_yes W H w.heap.size pb po c l _ hs (by omega) (by omega) (by omega) (by omega) hlb (pts_alloc hp _) (by omega) (by omega) hw10
  have e12 : decide (l.length ≤ 12) = true := by simp; omega
  rw [e12] at hse
  rw [h3] at hse hb hlc ⊢
  have HT := Lib.hid hse
  clear hw10 hse
  have d1 : decide ((W : Int) > 64) = false := by simp; omega
  have d2 : decide ((H : Int) > 64) = false := by simp; omega
  obtain ⟨q0, r0⟩ := hp 0 (by omega)
  obtain ⟨q1, r1⟩ := hp 1 (by omega)
  obtain ⟨q2, r2⟩ := hp 2 (by omega)
  rw [hxy 0 (by omega)] at q0 r0
  rw [hxy 1 (by omega)] at q1 r1
  rw [hxy 2 (by omega)] at q2 r2
  clear hp hxy hlb h
  have hpb : pb < w.heap.size := World.block_lt_of_cell? w _ q0
  have hq : ∀ k, k < 2 → w.cell? ⟨pb, po + 2 + k * 2, none⟩ = some (.int .i64 (x (k + 1))) ∧ w.cell? ⟨pb, po + 2 + k * 2 + 1, none⟩ = some (.int .i64 (y (k + 1))) := by
    intro k hk
    obtain rfl | rfl : k = 0 ∨ k = 1 := by omega
    · exact ⟨q1, r1⟩
    · exact ⟨q2, r2⟩
  have HQ := Lib.hid hq
  clear hq
  obtain ⟨i0, hi, hz0, hz1, hz2⟩ := info_parts Try.info3
  go_enter Try.func3, Try.ntmps3
  go_wp2_with fail
  refine HT.out.mono ?_
  rintro e w' ⟨⟨u, v, rfl⟩, hb2⟩
  have hb3 := hb.trans (hb2.mono (by simp))
  have hst : OpAt w w'.heap.size x y 0 (w'.alloc (.cells #[.int .i64 2, .slice none 0 0] 30)) :=
    ⟨_, heap_alloc_new w' _, World.ownsRow_nil _ _ _ _, hb3.alloc hb3.size _⟩
  have HST := Lib.hid hst
  have hwob : w.heap.size ≤ w'.heap.size := hb3.size
  clear hst hb3 hb2 HT
  go_wp2
  generalize w'.heap.size = ob at *
  go_loopw [45] (fun s45 wx => ∃ k : Nat, s45 = .int .i64 k ∧ k ≤ 2 ∧ OpAt w ob x y k wx) (fun s45 _ => 2 - (intOf s45).toNat)
  case atStart => exact ⟨0, rfl, by omega, HST.out⟩
  case round =>
    clear HST
    obtain ⟨k, rfl, hk, s, hz, hown, hbw⟩ := hrel
    by_cases hlt : k < 2
    · have hlt' : decide ((k : Int) < 2) = true := by simp; omega
      obtain ⟨c0, c1⟩ := HQ.out k hlt
      have e0 := (hbw.cell (p := ⟨pb, po + 2 + k * 2, none⟩) hpb).trans c0
      have e1 := (hbw.cell (p := ⟨pb, po + 2 + k * 2 + 1, none⟩) hpb).trans c1
      clear c0 c1
      have z1 : wr.cell? ⟨ob, 1, none⟩ = some s := cell_of_row wr ob 1 _ 30 (0, 0) hz
      have hobr : ob < wr.heap.size := (Array.getElem?_eq_some_iff.1 hz).1
      have hg1 := World.grownBy_alloc wr (.cells #[.int .i64 (x (k + 1)), .int .i64 (y (k + 1))] 31) none
      have hg2 := World.grownBy_alloc (wr.alloc (.cells #[.int .i64 (x (k + 1)), .int .i64 (y (k + 1))] 31)) (.cells #[.int .i64 (x (k + 1)), .int .i64 (y (k + 1))] 3) none
      have hn : ∀ j u, [Value.int .i64 (x (k + 1)), .int .i64 (y (k + 1))][j]? = some u →
          ((wr.alloc (.cells #[Value.int .i64 (x (k + 1)), .int .i64 (y (k + 1))] 31)).alloc (.cells #[Value.int .i64 (x (k + 1)), .int .i64 (y (k + 1))] 3)).cell? ((⟨wr.heap.size + 1, 0, none⟩ : Addr).add j) = some u := by
        have := heap_alloc_new (wr.alloc (.cells #[Value.int .i64 (x (k + 1)), .int .i64 (y (k + 1))] 31)) (.cells #[Value.int .i64 (x (k + 1)), .int .i64 (y (k + 1))] 3)
        simp only [World.size_alloc] at this
        exact World.news_of_block this
      have h1 : ∀ u ∈ [Value.int .i64 (x (k + 1)), .int .i64 (y (k + 1))], u.oneCell' = true := by simp [Value.oneCell']
      have hown2 := (hown.alloc (.cells #[Value.int .i64 (x (k + 1)), .int .i64 (y (k + 1))] 31)).alloc (.cells #[Value.int .i64 (x (k + 1)), .int .i64 (y (k + 1))] 3)
      have hbw2 := (hbw.alloc hbw.size (.cells #[Value.int .i64 (x (k + 1)), .int .i64 (y (k + 1))] 31)).alloc (Nat.le_trans hbw.size (by simp)) (.cells #[Value.int .i64 (x (k + 1)), .int .i64 (y (k + 1))] 3)
      have hz2' : ((wr.alloc (.cells #[Value.int .i64 (x (k + 1)), .int .i64 (y (k + 1))] 31)).alloc (.cells #[Value.int .i64 (x (k + 1)), .int .i64 (y (k + 1))] 3)).heap[ob]? = some (.cells #[.int .i64 2, s] 30 (0, 0)) :=
        (hg2.block ob (by simp; omega) (by simp)).trans ((hg1.block ob hobr (by simp)).trans hz)
      have hbase : ob + 1 ≤ ((wr.alloc (.cells #[Value.int .i64 (x (k + 1)), .int .i64 (y (k + 1))] 31)).alloc (.cells #[Value.int .i64 (x (k + 1)), .int .i64 (y (k + 1))] 3)).heap.size := by simp; omega
      have hsb : some ob ≠ s.ownBlock := fun e => by have := (hown.lt ob e.symm).1; omega
      have h63 : 2 * k + 2 ≤ maxLen := by unfold maxLen; omega
      have HN := Lib.hid hn
      have H1 := Lib.hid h1
      have HZ2 := Lib.hid hz2'
      clear hn h1 hz2' hg1 hg2 hown hbw hz
      go_wp2_with (at_builtin; refine wpList_append_lies _ rfl _ _ 28 rfl (ob + 1) 3 i0 _ 1 8 Try.underlying28 hi hz0 hz1 hz2 rfl (by decide) _ (2 * k) _ rfl hown2 ⟨wr.heap.size + 1, 0, none⟩ 2 2 [.int .i64 (x (k + 1)), .int .i64 (y (k + 1))] rfl rfl HN.out H1.out (by omega) h63 (by omega) hbase (wr.heap.size + 1 + 1) (by simp) ?_; intro g cap w3 hown3 hgrow hat hltg; have hz3 := (hgrow.block ob (by simp; omega) hsb).trans HZ2.out; have y1 : w3.cell? ⟨ob, 1, none⟩ = some s := cell_of_row w3 ob 1 _ 30 (0, 0) hz3; have f1 : w3.frozen? ⟨ob, 1, none⟩ = false := frozen_of_row w3 ob 1 _ 30 hz3)
      have hgrow2 : ((wr.alloc (.cells #[Value.int .i64 (x (k + 1)), .int .i64 (y (k + 1))] 31)).alloc (.cells #[Value.int .i64 (x (k + 1)), .int .i64 (y (k + 1))] 3)).grownBy w3 s.ownBlock := hgrow
      have hbw3 : Below w.heap.size w w3 := hbw2.grown hgrow2 (Nat.le_trans (Nat.le_succ_of_le hwob) hbase) (fun j hj => by have := (hown2.lt j hj).1; omega)
      have hzz := heap_setCell_same w3 ob 1 _ 30 (.slice (some ⟨g, 0, none⟩) (2 * k + 2) cap) hz3
      have hown4 := ownsRow_setCell_below hown3 (a := ⟨ob, 1, none⟩) (Nat.lt_succ_self ob) (.slice (some ⟨g, 0, none⟩) (2 * k + 2) cap)
      have hbw4 := hbw3.setCell (p := ⟨ob, 1, none⟩) hwob (.slice (some ⟨g, 0, none⟩) (2 * k + 2) cap)
      have hnews : opNews x y k ++ [Value.int .i64 (x (k + 1)), .int .i64 (y (k + 1))] = opNews x y (k + 1) := by
        unfold opNews
        rw [List.range_succ, List.flatMap_append]
        rfl
      rw [hnews] at hown4
      clear hgrow hat
      refine ⟨⟨k + 1, by go_num, hlt, _, hzz, hown4, hbw4⟩, ?_⟩
      simp [intOf]; omega
    · obtain rfl : k = 2 := by omega
      have hown' : wr.ownsRow (ob + 1) 3 1 s 4 (opNews x y 2) := hown
      obtain ⟨g, cap, rfl, hg1, hg2⟩ := hown'.form (by omega)
      obtain ⟨rx, ry, b1, b2, m, hrx, hry, hqt, hlt, hac, hnear⟩ := law
      have s0 : wr.cell? ⟨pb, po, none⟩ = some (.int .i64 (x 0)) := (hbw.cell (p := ⟨pb, po, none⟩) hpb).trans q0
      have s1 : wr.cell? ⟨pb, po + 1, none⟩ = some (.int .i64 (y 0)) := (hbw.cell (p := ⟨pb, po + 1, none⟩) hpb).trans r0
      have s2 : wr.cell? ⟨ob, 0, none⟩ = some (.int .i64 2) := cell_of_row wr ob 0 _ 30 (0, 0) hz
      have s3 : wr.cell? ⟨ob, 1, none⟩ = some (.slice (some ⟨g, 0, none⟩) 4 cap) := cell_of_row wr ob 1 _ 30 (0, 0) hz
      have hops := ops_laid wr.drew ob g cap x y hown'
      have hR0 : ∀ i, i < 2 → coord (P0of x y i) = some ((fun i => if i = 0 then rx 0 else ry 0) i) := by
        intro i hi
        obtain rfl | rfl : i = 0 ∨ i = 1 := by omega
        · exact hrx 0 (by omega)
        · exact hry 0 (by omega)
      have hR1 : ∀ i, i < 4 → coord (P1of x y i) = some ((fun i => if i % 2 = 0 then rx (i / 2 + 1) else ry (i / 2 + 1)) i) := by
        intro i hi
        obtain rfl | rfl | rfl | rfl : i = 0 ∨ i = 1 ∨ i = 2 ∨ i = 3 := by omega
        · exact hrx 1 (by omega)
        · exact hry 1 (by omega)
        · exact hrx 2 (by omega)
        · exact hry 2 (by omega)
      have HCALL := Lib.hid (maskBy5 W H (wr.heap.size + 1) wr.heap.size 2 g cap (P0of x y) (P1of x y) _ _ b1 b2 m 3 _ hW1 hW hH1 hH hops hR0 hR1 hqt hlt hac)
      have hgA := fun (a : Addr) (v : Value) (h : wr.cell? a = some v) => (World.grownBy_alloc (wr.drew.alloc (.cells #[.int .i64 (x 0), .int .i64 (y 0)] 3)) (.cells #[.int .i64 0, .slice (some ⟨wr.drew.heap.size, 0, none⟩) 2 2, .int .i64 2, .slice (some ⟨g, 0, none⟩) 4 cap, .int .i64 4, .slice none 0 0] 30) none).cell
        ((World.grownBy_alloc wr.drew (.cells #[.int .i64 (x 0), .int .i64 (y 0)] 3) none).cell (show wr.drew.cell? a = some v from h) (by simp)) (by simp)
      have t0 := hgA _ _ s0
      have t1 := hgA _ _ s1
      have t2 := hgA _ _ s2
      have t3 := hgA _ _ s3
      have l0 := World.block_lt_of_cell? _ _ t0
      have l2 := World.block_lt_of_cell? _ _ t2
      clear hgA
      have T0 := Lib.hid t0
      have T1 := Lib.hid t1
      have T2 := Lib.hid t2
      have T3 := Lib.hid t3
      have L0 := Lib.hid l0
      have L2 := Lib.hid l2
      have HBW := Lib.hid ((hbw.drew.alloc hbw.size (.cells #[.int .i64 (x 0), .int .i64 (y 0)] 3)).alloc (Nat.le_trans hbw.size (by simp)) (.cells #[.int .i64 0, .slice (some ⟨wr.drew.heap.size, 0, none⟩) 2 2, .int .i64 2, .slice (some ⟨g, 0, none⟩) 4 cap, .int .i64 4, .slice none 0 0] 30))
      have hsz : w.heap.size ≤ wr.heap.size := hbw.size
      clear hown hown' hz hops hR0 hR1 t0 t1 t2 t3 l0 l2 hbw
      go_wp2_with fail
      go_region_held3 (fun w' => w'.cell? ⟨pb, po, none⟩ = some (.int .i64 (x 0)) ∧ w'.cell? ⟨pb, po + 1, none⟩ = some (.int .i64 (y 0)) ∧ w'.cell? ⟨ob, 0, none⟩ = some (.int .i64 2) ∧ w'.cell? ⟨ob, 1, none⟩ = some (.slice (some ⟨g, 0, none⟩) 4 cap))
        (first | go_keep | exact ⟨(hb1.cell (p := ⟨pb, po, none⟩) L0.out).trans T0.out, (hb1.cell (p := ⟨pb, po + 1, none⟩) L0.out).trans T1.out, (hb1.cell (p := ⟨ob, 0, none⟩) L2.out).trans T2.out, (hb1.cell (p := ⟨ob, 1, none⟩) L2.out).trans T3.out⟩)
        (first | (go_at_call 5; refine HCALL.out.mono ?_; rintro e w1 ⟨db, hdb, rfl, hm, hb1⟩))
      have hbw1 : Below w.heap.size w w1 := HBW.out.trans (hb1.mono (Nat.le_trans hsz (by simp; omega)))
      have hm' : ∀ i, i < W * H → w1.cell? ⟨db, i, none⟩ = some (.int .u8 (m.getD i 0)) := by
        intro i hi
        have hlen : m.length = W * H := accum_length _ _ _ _ _ hac
        rw [cell_of_row _ _ _ _ _ _ hm]
        unfold byteCells
        simp [List.getD, List.getElem?_eq_getElem (show i < m.length by omega)]
      have hdb1 : db < w1.heap.size := (Array.getElem?_eq_some_iff.1 hm).1
      have HM := Lib.hid hm'
      have HNE := Lib.hid hnear
      have a0 := (hbw1.cell (p := ⟨pb, po, none⟩) hpb).trans q0
      have a1 := (hbw1.cell (p := ⟨pb, po + 2, none⟩) hpb).trans q1
      have a2 := (hbw1.cell (p := ⟨pb, po + 4, none⟩) hpb).trans q2
      have c0 := (hbw1.cell (p := ⟨pb, po + 1, none⟩) hpb).trans r0
      have c1 := (hbw1.cell (p := ⟨pb, po + 2 + 1, none⟩) hpb).trans r1
      have c2 := (hbw1.cell (p := ⟨pb, po + 4 + 1, none⟩) hpb).trans r2
      clear HCALL T0 T1 T2 T3 L0 L2 HBW hb1 hdb hm hm' hnear
      go_wp2_with fail
      refine (curve8 pb po c x y w1 hlc a0 a1 a2 c0 c1 c2 hbx hby).mono ?_
      rintro e w2 ⟨g2, cap2, rfl, hown2, hb2⟩
      have hpts := pts_own (by simp) hown2
      have hbw2 := hbw1.trans (hb2.mono hbw1.size)
      go_wp2_with fail
      refine (polygon7 g2 0 cap2 ((List.range 65).map (crv x y)) w2 (by simp) (by simp) hpts).mono ?_
      rintro e w3 ⟨g3, cap3, rfl, hown3, hb3⟩
      have heds := eds_own (by simp [polygonP]) hown3
      have hbw3 := hbw2.trans (hb3.mono hbw2.size)
      have hm3 : ∀ i, i < W * H → w3.cell? ⟨db, i, none⟩ = some (.int .u8 (m.getD i 0)) := fun i hi =>
        (hb3.cell (p := ⟨db, i, none⟩) (Nat.lt_of_lt_of_le hdb1 hb2.size)).trans ((hb2.cell (p := ⟨db, i, none⟩) hdb1).trans (HM.out i hi))
      have hlm : m.length = W * H := accum_length _ _ _ _ _ hac
      have hpl : (polygonP ((List.range 65).map (crv x y))).length = ((List.range 65).map (crv x y)).length := by simp [polygonP]
      have hN6 := near6 W H db g3 cap3 (W * H) m _ w3 hW hH hlm (by simp [polygonP]) heds (crv_edges x y hbx hby) hm3 HNE.out
      rw [hpl] at hN6
      have H6 := Lib.hid hN6
      clear hN6 hm3
      unfold dFar at H6
      go_wp2_with fail
      refine H6.out.mono ?_
      rintro e w4 ⟨rfl, hb4⟩
      have hbw4 := hbw3.trans (hb4.mono hbw3.size)
      go_wp2
      go_ret
      exact ⟨rfl, hbw4⟩
end Go.Proofs.Ytmgcbodlolnheaa
