/- The walks of path and several. -/
import Derived.Test.YtmgcbodlolnheaaWl
namespace Go.Proofs.Ytmgcbodlolnheaa
open Go.RowKit

theorem Try.info30 : (Try.prog.info? 30).map (fun i => (i.zero, i.size, i.bytes)) = some (some (.agg #[.int .i64 0, .slice none 0 0]), 2, 32) := by kernel_rfl

def PathRel (w : World) (n : Nat) (s3 s9 : Value) (wx : World) : Prop :=
  ∃ k : Nat, s9 = .int .i64 k ∧ k ≤ n ∧ (∃ xs, wx.ownsRow w.heap.size 30 2 s3 k xs ∧ ∀ u ∈ xs, u.oneCell' = true) ∧ Below w.heap.size w wx

set_option maxRecDepth 100000 in
set_option maxHeartbeats 4000000 in
theorem path11 (pb po c : Nat) (l : List (Int × Int)) (w : World) (hl0 : 1 ≤ l.length) (hl : l.length ≤ 1000) (hp : Pts w pb po l) :
    Calls Try.prog 11 #[.slice (some ⟨pb, po, none⟩) l.length c] w fun e w' => ∃ g cap xs, e = .returned (.slice (some ⟨g, 0, none⟩) (l.length + 1) cap) ∧
      w'.ownsRow w.heap.size 30 2 (.slice (some ⟨g, 0, none⟩) (l.length + 1) cap) (l.length + 1) xs ∧ (∀ u ∈ xs, u.oneCell' = true) ∧ Below w.heap.size w w' := by
  have hpb : pb < w.heap.size := World.block_lt_of_cell? w _ (hp 0 (by omega)).1
  obtain ⟨i0, hi, hz0, hz1, hz2⟩ := info_parts Try.info30
  go_enter Try.func11, Try.ntmps11
  go_wp2
  go_loopw [3, 9] (fun s3 s9 wx => PathRel w l.length s3 s9 wx) (fun _ s9 _ => l.length - (intOf s9).toNat)
  case atStart => exact ⟨0, rfl, by omega, ⟨[], World.ownsRow_nil _ _ _ _, by simp⟩, Below.refl _ _⟩
  case round =>
    obtain ⟨k, rfl, hk, ⟨xs, hown, hone⟩, hb⟩ := hrel
    have HONE := Lib.hid hone
    clear hone
    by_cases hlt : k < l.length
    · have hlt' : decide ((k : Int) < l.length) = true := by simp; omega
      have e0 := (hb.cell (p := ⟨pb, po + k * 2, none⟩) hpb).trans (hp k hlt).1
      have e1 := (hb.cell (p := ⟨pb, po + k * 2 + 1, none⟩) hpb).trans (hp k hlt).2
      have hpbr : pb < wr.heap.size := Nat.lt_of_lt_of_le hpb hb.size
      generalize (l.getD k (0, 0)).1 = x0 at e0
      generalize (l.getD k (0, 0)).2 = y0 at e1
      have h1 : ∀ kd : Int, ∀ u ∈ [Value.int .i64 kd, .slice (some ⟨wr.heap.size + 1, 0, none⟩) 2 2], u.oneCell' = true := by simp [Value.oneCell']
      have h63 : k + 1 ≤ maxLen := by unfold maxLen; omega
      have HN : Hid (∀ kd : Int, ∀ j u, [Value.int .i64 kd, .slice (some ⟨wr.heap.size + 1, 0, none⟩) 2 2][j]? = some u →
          (((wr.alloc (.cells #[Value.int .i64 x0, .int .i64 y0] 31)).alloc (.cells #[Value.int .i64 x0, .int .i64 y0] 3)).alloc (.cells #[Value.int .i64 kd, .slice (some ⟨wr.heap.size + 1, 0, none⟩) 2 2] 30)).cell? ((⟨wr.heap.size + 1 + 1, 0, none⟩ : Addr).add j) = some u) := by
        intro kd
        have := heap_alloc_new ((wr.alloc (.cells #[Value.int .i64 x0, .int .i64 y0] 31)).alloc (.cells #[Value.int .i64 x0, .int .i64 y0] 3)) (.cells #[Value.int .i64 kd, .slice (some ⟨wr.heap.size + 1, 0, none⟩) 2 2] 30)
        simp only [World.size_alloc] at this
        exact World.news_of_block this
      have H1 := Lib.hid h1
      clear h1
      have HB : Hid (∀ kd : Int, Below w.heap.size w (((wr.alloc (.cells #[Value.int .i64 x0, .int .i64 y0] 31)).alloc (.cells #[Value.int .i64 x0, .int .i64 y0] 3)).alloc (.cells #[Value.int .i64 kd, .slice (some ⟨wr.heap.size + 1, 0, none⟩) 2 2] 30))) :=
        fun kd => ((hb.alloc hb.size _).alloc (Nat.le_trans hb.size (by simp)) _).alloc (Nat.le_trans hb.size (by simp; omega)) _
      have HO : Hid (∀ kd : Int, (((wr.alloc (.cells #[Value.int .i64 x0, .int .i64 y0] 31)).alloc (.cells #[Value.int .i64 x0, .int .i64 y0] 3)).alloc (.cells #[Value.int .i64 kd, .slice (some ⟨wr.heap.size + 1, 0, none⟩) 2 2] 30)).ownsRow w.heap.size 30 2 u3 k xs) :=
        fun kd => ((hown.alloc _).alloc _).alloc _
      clear hown hb
      by_cases hk0 : k = 0
      · subst hk0
        simp only [Nat.zero_mul, Nat.add_zero] at e0 e1
        go_wp2_with (at_builtin; refine wpList_append_lies _ rfl _ _ 23 rfl w.heap.size 30 i0 _ 2 32 Try.underlying23 hi hz0 hz1 hz2 rfl (by decide) _ 0 _ rfl (HO.out 0) ⟨wr.heap.size + 1 + 1, 0, none⟩ 1 1 [.int .i64 0, .slice (some ⟨wr.heap.size + 1, 0, none⟩) 2 2] rfl rfl (HN.out 0) (H1.out 0) (by omega) h63 (by omega) (HB.out 0).size (wr.heap.size + 1 + 1 + 1) (by simp) ?_; intro g cap w3 hown3 hgrow hat hltg)
        have hbw3 : Below w.heap.size w w3 := (HB.out 0).grown hgrow (HB.out 0).size (fun j hj => ((HO.out 0).lt j hj).1)
        go_roundw
        case rel => exact ⟨0 + 1, by go_num, hlt, ⟨_, hown3, fun u hu => (List.mem_append.1 hu).elim (HONE.out u) (H1.out 0 u)⟩, hbw3⟩
        case measure => simp [intOf]; omega
      · have hk0' : ((k : Int) == 0) = false := by simp; omega
        go_wp2_with (at_builtin; refine wpList_append_lies _ rfl _ _ 23 rfl w.heap.size 30 i0 _ 2 32 Try.underlying23 hi hz0 hz1 hz2 rfl (by decide) _ k _ rfl (HO.out 1) ⟨wr.heap.size + 1 + 1, 0, none⟩ 1 1 [.int .i64 1, .slice (some ⟨wr.heap.size + 1, 0, none⟩) 2 2] rfl rfl (HN.out 1) (H1.out 1) (by omega) h63 (by omega) (HB.out 1).size (wr.heap.size + 1 + 1 + 1) (by simp) ?_; intro g cap w3 hown3 hgrow hat hltg)
        have hbw3 : Below w.heap.size w w3 := (HB.out 1).grown hgrow (HB.out 1).size (fun j hj => ((HO.out 1).lt j hj).1)
        go_roundw
        case rel => exact ⟨k + 1, by go_num, hlt, ⟨_, hown3, fun u hu => (List.mem_append.1 hu).elim (HONE.out u) (H1.out 1 u)⟩, hbw3⟩
        case measure => simp [intOf]; omega
    · obtain rfl : k = l.length := by omega
      have hlt' : decide ((l.length : Int) < l.length) = false := by simp
      have hform := hown.form (by omega)
      obtain ⟨g0, cap0, rfl, _, _⟩ := hform
      have hn : ∀ j u, [Value.int .i64 4, .slice none 0 0][j]? = some u → (wr.alloc (.cells #[Value.int .i64 4, .slice none 0 0] 30)).cell? ((⟨wr.heap.size, 0, none⟩ : Addr).add j) = some u :=
        World.news_of_block (heap_alloc_new wr _)
      have h1 : ∀ u ∈ [Value.int .i64 4, .slice none 0 0], u.oneCell' = true := by simp [Value.oneCell']
      have h63 : l.length + 1 ≤ maxLen := by unfold maxLen; omega
      have hba : w.heap.size ≤ (wr.alloc (.cells #[Value.int .i64 4, .slice none 0 0] 30)).heap.size := Nat.le_trans hb.size (by simp)
      have HN := Lib.hid hn
      have H1 := Lib.hid h1
      clear hn h1
      go_wp2_with (at_builtin; refine wpList_append_lies _ rfl _ _ 23 rfl w.heap.size 30 i0 _ 2 32 Try.underlying23 hi hz0 hz1 hz2 rfl (by decide) _ l.length _ rfl (hown.alloc _) ⟨wr.heap.size, 0, none⟩ 1 1 [.int .i64 4, .slice none 0 0] rfl rfl HN.out H1.out (by omega) h63 (by omega) hba (wr.heap.size + 1) (by simp) ?_; intro g cap w3 hown3 hgrow hat hltg)
      have hbw3 : Below w.heap.size w w3 := (hb.alloc hb.size _).grown hgrow hba (fun j hj => (hown.lt j hj).1)
      go_ret
      exact ⟨g, cap, _, rfl, hown3, fun u hu => (List.mem_append.1 hu).elim (HONE.out u) (H1.out u), hbw3⟩

set_option maxHeartbeats 1000000 in
theorem within_nil (far : Int) (w : World) :
    Calls Try.prog 10 #[.slice none 0 0, .int .i64 far] w fun e w' => e = .returned (.bool false) ∧ w = w' := by
  go_enter Try.func10, Try.ntmps10
  go_wp2
  refine wp_loop_rounds 1 ?_
  rw [rounds_succ]
  go_wp2
  go_ret
  exact ⟨rfl, rfl⟩

def severalB (W H : Int) (l : List (Int × Int)) : Bool :=
  sizedB W H && decide (W ≤ 200) && decide (H ≤ 200) && withinB l (64 * (64 + imin W H)) && decide (l.length ≤ 12)

set_option maxRecDepth 100000 in
set_option maxHeartbeats 4000000 in
theorem several_big (W H : Int) (lv : Value) (w : World) (h : (sizedB W H && decide (W ≤ 200) && decide (H ≤ 200)) = false) :
    Calls Try.prog 4 #[.int .i64 W, .int .i64 H, lv] w fun e w' => (∃ a b, e = .returned (.tuple #[a, b, .bool false])) ∧ w = w' := by
  by_cases h1 : sizedB W H = true
  · by_cases h2 : W ≤ 200
    · have h3 : ¬ H ≤ 200 := by
        intro h3
        simp [h1, h2, h3] at h
      have d1 : decide (W > 200) = false := by simp; omega
      have d1' : decide (200 < W) = false := by simp; omega
      have d2 : decide (H > 200) = true := by simp; omega
      have d2' : decide (200 < H) = true := by simp; omega
      have HS := Lib.hid h1
      clear h h1
      go_enter Try.func4, Try.ntmps4
      go_wp2_with fail
      refine (sized9 W H _).mono ?_
      rintro e w' ⟨rfl, rfl⟩
      rw [HS.out]
      go_wp2
      go_ret3
      exact ⟨⟨_, _, rfl⟩, rfl⟩
    · have d1 : decide (W > 200) = true := by simp; omega
      have d1' : decide (200 < W) = true := by simp; omega
      have HS := Lib.hid h1
      clear h h1
      go_enter Try.func4, Try.ntmps4
      go_wp2_with fail
      refine (sized9 W H _).mono ?_
      rintro e w' ⟨rfl, rfl⟩
      rw [HS.out]
      go_wp2
      go_ret3
      exact ⟨⟨_, _, rfl⟩, rfl⟩
  · have hs : sizedB W H = false := by simpa using h1
    have HS := Lib.hid hs
    clear h h1 hs
    go_enter Try.func4, Try.ntmps4
    go_wp2_with fail
    refine (sized9 W H _).mono ?_
    rintro e w' ⟨rfl, rfl⟩
    rw [HS.out]
    go_wp2
    go_ret3
    exact ⟨⟨_, _, rfl⟩, rfl⟩
end Go.Proofs.Ytmgcbodlolnheaa
