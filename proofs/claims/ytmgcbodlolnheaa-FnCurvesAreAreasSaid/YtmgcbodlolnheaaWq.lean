/- The walks of Area and near. -/
import Derived.Test.YtmgcbodlolnheaaWp
namespace Go.Proofs.Ytmgcbodlolnheaa
open Go.RowKit

set_option maxRecDepth 100000 in
set_option maxHeartbeats 4000000 in
/-- Area. -/
theorem area17 (gb c : Nat) (x y one : Int) (l : List Edge) (r : Nat) (w : World) (hn : l.length ≤ 1000)
    (hx0 : 0 ≤ x) (hx1 : x ≤ 64) (hy0 : 0 ≤ y) (hy1 : y ≤ 64) (ho0 : 0 ≤ one) (ho1 : one ≤ 262144)
    (hE : Eds w gb l) (hbd : ∀ i (h : i < l.length), (-100000000 ≤ l[i].x0 ∧ l[i].x0 ≤ 100000000) ∧ (-100000000 ≤ l[i].y0 ∧ l[i].y0 ≤ 100000000) ∧ (-100000000 ≤ l[i].x1 ∧ l[i].x1 ≤ 100000000) ∧ (-100000000 ≤ l[i].y1 ∧ l[i].y1 ≤ 100000000))
    (h : areaP l x y one = some r) :
    Calls Try.prog 17 #[.slice (some ⟨gb, 0, none⟩) l.length c, .int .i64 x, .int .i64 y, .int .i64 one] w fun e w' => e = .returned (.float .f64 r) ∧ Below w.heap.size w w' := by
  unfold areaP at h
  rw [Option.bind_eq_some_iff] at h
  obtain ⟨s, hs, hr⟩ := h
  unfold of64 at hr
  have r1 := rdiv64 hr
  clear hr
  have hoo := mul_bd (a := one) (b := one) (A := 262144) (B := 262144) (by omega) ho1 ho0 ho1 (by omega)
  have w1 : IntKind.i64.wrap (one * one) = one * one := by rw [IntKind.wrap_i64]; omega
  go_enter Try.func17, Try.ntmps17
  go_wp2
  refine Code.wp_mono (Q := areaQ w gb l.length c x y one s) ?_ (wp_loop (AreaInv w gb c x y one l s) (areaMu l.length) ?_ ?_)
  · intro e a wx hq
    match e, hq with
    | .exit 0, hq =>
      obtain ⟨f, rfl, h9, hb⟩ := hq
      unfold fr17
      rw [h9]
      go_wp2
      go_ret
      exact ⟨rfl, hb⟩
  · exact area_mk _ 0 0 (by kernel_rfl) rfl rfl (by omega) hs (Below.refl _ _)
  · rintro a wx ⟨f, hrel, rfl⟩
    exact area_round w gb c x y one l s hn hx0 hx1 hy0 hy1 ho0 ho1 hE hbd f wx hrel
/-- What near holds together. -/
def NearR (l : List Int) (edges : List Edge) (W : Nat) (x y : Nat) : Prop := ∃ area, areaP edges x y 262144 = some area ∧ nearB (l.getD (y * W + x) 0) area dFar = some true

theorem eds_below {w w' : World} {gb : Nat} {l : List Edge} (h : Eds w gb l) (k : Below w.heap.size w w') : Eds w' gb l := fun i hi => by
  obtain ⟨e0, e1, e2, e3⟩ := h i hi
  have hgb : gb < w.heap.size := World.block_lt_of_cell? w _ e0
  exact ⟨(k.cell (p := ⟨gb, i * 4, none⟩) hgb).trans e0, (k.cell (p := ⟨gb, i * 4 + 1, none⟩) hgb).trans e1, (k.cell (p := ⟨gb, i * 4 + 2, none⟩) hgb).trans e2, (k.cell (p := ⟨gb, i * 4 + 3, none⟩) hgb).trans e3⟩

set_option maxRecDepth 100000 in
set_option maxHeartbeats 4000000 in
theorem near6 (W H db gb c cl : Nat) (l : List Int) (edges : List Edge) (w : World) (hW : W ≤ 64) (hH : H ≤ 64) (hl : l.length = W * H) (hn : edges.length ≤ 1000)
    (hE : Eds w gb edges) (hbd : ∀ i (h : i < edges.length), (-100000000 ≤ edges[i].x0 ∧ edges[i].x0 ≤ 100000000) ∧ (-100000000 ≤ edges[i].y0 ∧ edges[i].y0 ≤ 100000000) ∧ (-100000000 ≤ edges[i].x1 ∧ edges[i].x1 ≤ 100000000) ∧ (-100000000 ≤ edges[i].y1 ∧ edges[i].y1 ≤ 100000000))
    (hm : ∀ i, i < W * H → w.cell? ⟨db, i, none⟩ = some (.int .u8 (l.getD i 0)))
    (hnear : ∀ x y, x < W → y < H → NearR l edges W x y) :
    Calls Try.prog 6 #[.slice (some ⟨db, 0, none⟩) (W * H) cl, .int .i64 W, .int .i64 H, .slice (some ⟨gb, 0, none⟩) edges.length c, .int .i64 262144, .float .f64 dFar] w fun e w' => e = .returned (.bool true) ∧ Below w.heap.size w w' := by
  have hWH : W * H ≤ 64 * 64 := Nat.mul_le_mul hW hH
  have hWHi : (W : Int) * H ≤ 4096 := by exact_mod_cast hWH
  have hWHi0 : 0 ≤ (W : Int) * H := by exact_mod_cast Nat.zero_le (W * H)
  have HN := Lib.hid hnear
  have HM := Lib.hid hm
  clear hnear hm
  go_enter Try.func6, Try.ntmps6
  go_wp2
  go_loopw [22] (fun s22 wx => ∃ y : Nat, s22 = .int .i64 y ∧ y ≤ H ∧ Below w.heap.size w wx) (fun s22 _ => H - (intOf s22).toNat)
  case atStart => exact ⟨0, rfl, by omega, Below.refl _ _⟩
  case round =>
    obtain ⟨y, rfl, hyH, hb⟩ := hrel
    by_cases hlt : y < H
    · have hlt' : decide ((y : Int) < H) = true := by simp; omega
      go_wp2
      go_loopw [26] (fun s26 wx => ∃ x : Nat, s26 = .int .i64 x ∧ x ≤ W ∧ Below w.heap.size w wx) (fun s26 _ => W - (intOf s26).toNat)
      case atStart => exact ⟨0, rfl, by omega, hb⟩
      case round =>
        clear hb
        obtain ⟨x, rfl, hxW, hb⟩ := hrel
        by_cases hxl : x < W
        · have hxl' : decide ((x : Int) < W) = true := by simp; omega
          obtain ⟨area, hA, hB⟩ := HN.out x y hxl hlt
          have hyW : y * W + x < W * H := by
            have h1 : y * W + W = (y + 1) * W := by rw [Nat.add_mul, Nat.one_mul]
            have h2 : (y + 1) * W ≤ H * W := Nat.mul_le_mul_right W hlt
            have h3 : H * W = W * H := Nat.mul_comm _ _
            omega
          have hm0 := HM.out _ hyW
          have hdb : db < w.heap.size := World.block_lt_of_cell? w _ hm0
          have hmr := (hb.cell (p := ⟨db, y * W + x, none⟩) hdb).trans hm0
          have hdbr : db < wr.heap.size := Nat.lt_of_lt_of_le hdb hb.size
          have hEr := eds_below hE hb
          generalize l.getD (y * W + x) 0 = bv at hB hmr
          clear hm0
          have hyWi : (y : Int) * W + x < (W : Int) * H := by exact_mod_cast hyW
          have hyWi0 : 0 ≤ (y : Int) * W := by exact_mod_cast Nat.zero_le (y * W)
          have w1 : IntKind.i64.wrap ((y : Int) * W) = (y : Int) * W := by rw [IntKind.wrap_i64]; omega
          have w2 : IntKind.i64.wrap ((y : Int) * W + (x : Int)) = (y : Int) * W + (x : Int) := by rw [IntKind.wrap_i64]; omega
          have t1 : ((y : Int) * W + (x : Int)).toNat = y * W + x := by
            have : (y : Int) * W + (x : Int) = ((y * W + x : Nat) : Int) := by push_cast; rfl
            rw [this]; rfl
          have p1 : 0 ≤ (y : Int) * W + (x : Int) := by omega
          go_wp2_with fail
          go_region_held3 (fun w' => w'.cell? ⟨db, y * W + x, none⟩ = some (.int .u8 bv)) (first | go_keep | exact (hb1.cell (p := ⟨db, y * W + x, none⟩) hdbr).trans hmr | exact hmr)
            (first | (go_at_call 17; refine (area17 gb c x y 262144 edges area _ hn (by omega) (by omega) (by omega) (by omega) (by omega) (by omega) (show Eds wr.drew gb edges from hEr) hbd hA).mono ?_; rintro e w1 ⟨rfl, hb1⟩) | (go_at_call 16; refine (near16 bv area dFar true _ hB).mono ?_; rintro e w2 ⟨rfl, rfl⟩))
          have hb1w : Below w.heap.size w w1 := hb.trans ((show Below wr.heap.size wr w1 from ⟨hb1.os, hb1.tape, hb1.output, hb1.size, hb1.block⟩).mono hb.size)
          go_wp2
          go_roundw
          case rel => exact ⟨x + 1, by go_num, hxl, hb1w⟩
          case measure => simp [intOf]; omega
        · obtain rfl : x = W := by omega
          have hxl' : decide ((x : Int) < x) = false := by simp
          go_wp2
          go_roundw
          case rel => exact ⟨y + 1, by go_num, hlt, hb⟩
          case measure => simp [intOf]; omega
    · obtain rfl : y = H := by omega
      have hxl' : decide ((y : Int) < y) = false := by simp
      go_wp2
      go_ret
      exact ⟨rfl, hb⟩
end Go.Proofs.Ytmgcbodlolnheaa
