/- What lies in a row of points, of edges. -/
import Derived.Test.YtmgcbodlolnheaaWq
namespace Go.Proofs.Ytmgcbodlolnheaa
open Go.RowKit

theorem ptCells_at (l : List (Int × Int)) : ∀ i, i < l.length → (ptCells l)[i * 2]? = some (.int .i64 (l.getD i (0, 0)).1) ∧ (ptCells l)[i * 2 + 1]? = some (.int .i64 (l.getD i (0, 0)).2) := by
  induction l with
  | nil => intro i hi; simp at hi
  | cons q l ih =>
    intro i hi
    have e : ptCells (q :: l) = .int .i64 q.1 :: .int .i64 q.2 :: ptCells l := rfl
    cases i with
    | zero => rw [e]; exact ⟨rfl, rfl⟩
    | succ i =>
      have := ih i (by simpa using hi)
      rw [e, show (i + 1) * 2 = (i * 2) + 1 + 1 by omega, show i * 2 + 1 + 1 + 1 = (i * 2 + 1) + 1 + 1 by omega]
      simp only [List.getElem?_cons_succ, List.getD_cons_succ]
      exact this

theorem pts_own {w : World} {base g cap : Nat} {l : List (Int × Int)} {n : Nat} (hn : l.length = n) (h : w.ownsRow base 31 2 (.slice (some ⟨g, 0, none⟩) n cap) n (ptCells l)) : Pts w g 0 l := by
  intro i hi
  obtain ⟨a, b⟩ := ptCells_at l i hi
  have c0 := h.cellAt (i * 2) (by omega)
  have c1 := h.cellAt (i * 2 + 1) (by omega)
  rw [Nat.zero_add]
  exact ⟨c0.trans a, c1.trans b⟩

theorem edCells_at (l : List Edge) : ∀ i (h : i < l.length), (edCells l)[i * 4]? = some (.int .i64 l[i].x0) ∧ (edCells l)[i * 4 + 1]? = some (.int .i64 l[i].y0) ∧
    (edCells l)[i * 4 + 2]? = some (.int .i64 l[i].x1) ∧ (edCells l)[i * 4 + 3]? = some (.int .i64 l[i].y1) := by
  induction l with
  | nil => intro i hi; simp at hi
  | cons q l ih =>
    intro i hi
    have e : edCells (q :: l) = .int .i64 q.x0 :: .int .i64 q.y0 :: .int .i64 q.x1 :: .int .i64 q.y1 :: edCells l := rfl
    cases i with
    | zero => rw [e]; exact ⟨rfl, rfl, rfl, rfl⟩
    | succ i =>
      have := ih i (by simpa using hi)
      rw [e, show (i + 1) * 4 = (i * 4) + 1 + 1 + 1 + 1 by omega, show i * 4 + 1 + 1 + 1 + 1 + 1 = (i * 4 + 1) + 1 + 1 + 1 + 1 by omega, show i * 4 + 1 + 1 + 1 + 1 + 2 = (i * 4 + 2) + 1 + 1 + 1 + 1 by omega, show i * 4 + 1 + 1 + 1 + 1 + 3 = (i * 4 + 3) + 1 + 1 + 1 + 1 by omega]
      simp only [List.getElem?_cons_succ, List.getElem_cons_succ]
      exact this

theorem eds_own {w : World} {base g cap : Nat} {l : List Edge} {n : Nat} (hn : l.length = n) (h : w.ownsRow base 50 4 (.slice (some ⟨g, 0, none⟩) n cap) n (edCells l)) : Eds w g l := by
  intro i hi
  obtain ⟨a, b, c, d⟩ := edCells_at l i hi
  have c0 := h.cellAt (i * 4) (by omega)
  have c1 := h.cellAt (i * 4 + 1) (by omega)
  have c2 := h.cellAt (i * 4 + 2) (by omega)
  have c3 := h.cellAt (i * 4 + 3) (by omega)
  exact ⟨c0.trans a, c1.trans b, c2.trans c, c3.trans d⟩

theorem psum_bound (x : Nat → Int) (k : Nat) (hk : k ≤ 64) (hx : ∀ j, j < 3 → -8192 ≤ x j ∧ x j ≤ 8192) : -33554432 ≤ psum x k 3 ∧ psum x k 3 ≤ 33554432 := by
  obtain ⟨m, hm⟩ : ∃ m : Nat, m = 64 - k := ⟨_, rfl⟩
  have e : (64 : Int) - k = m := by omega
  have h0 := mul_bd (a := x 0) (b := (m : Int) * m) (A := 8192) (B := (m : Int) * m) (hx 0 (by omega)).1 (hx 0 (by omega)).2 (Int.mul_nonneg (by omega) (by omega)) (Int.le_refl _) (by omega)
  have h1 := mul_bd (a := x 1) (b := 2 * (k * m : Int)) (A := 8192) (B := 2 * (k * m : Int)) (hx 1 (by omega)).1 (hx 1 (by omega)).2 (Int.mul_nonneg (by omega) (Int.mul_nonneg (by omega) (by omega))) (Int.le_refl _) (by omega)
  have h2 := mul_bd (a := x 2) (b := (k : Int) * k) (A := 8192) (B := (k : Int) * k) (hx 2 (by omega)).1 (hx 2 (by omega)).2 (Int.mul_nonneg (by omega) (by omega)) (Int.le_refl _) (by omega)
  have hs : (m : Int) * m + 2 * (k * m) + k * k = 4096 := by
    have : (m : Int) = 64 - k := e.symm
    grind
  have hp : psum x k 3 = x 0 * ((m : Int) * m) + x 1 * (2 * (k * m)) + x 2 * ((k : Int) * k) := by
    simp only [psum, term, e]
    grind
  rw [hp]
  omega

theorem crv_edges (x y : Nat → Int) (hx : ∀ j, j < 3 → -8192 ≤ x j ∧ x j ≤ 8192) (hy : ∀ j, j < 3 → -8192 ≤ y j ∧ y j ≤ 8192) :
    ∀ i (h : i < (polygonP ((List.range 65).map (crv x y))).length), (-100000000 ≤ (polygonP ((List.range 65).map (crv x y)))[i].x0 ∧ (polygonP ((List.range 65).map (crv x y)))[i].x0 ≤ 100000000) ∧
      (-100000000 ≤ (polygonP ((List.range 65).map (crv x y)))[i].y0 ∧ (polygonP ((List.range 65).map (crv x y)))[i].y0 ≤ 100000000) ∧
      (-100000000 ≤ (polygonP ((List.range 65).map (crv x y)))[i].x1 ∧ (polygonP ((List.range 65).map (crv x y)))[i].x1 ≤ 100000000) ∧
      (-100000000 ≤ (polygonP ((List.range 65).map (crv x y)))[i].y1 ∧ (polygonP ((List.range 65).map (crv x y)))[i].y1 ≤ 100000000) := by
  intro i h
  have key : ∀ j, j < 65 → ((List.range 65).map (crv x y)).getD j (0, 0) = crv x y j := by
    intro j hj
    simp [List.getD, hj]
  have hlen : ((List.range 65).map (crv x y)).length = 65 := by simp
  have hi : i < 65 := by simpa [polygonP] using h
  have hm : (i + 1) % 65 < 65 := Nat.mod_lt _ (by omega)
  have hb : ∀ j, j < 65 → (-100000000 ≤ (crv x y j).1 ∧ (crv x y j).1 ≤ 100000000) ∧ (-100000000 ≤ (crv x y j).2 ∧ (crv x y j).2 ≤ 100000000) := by
    intro j hj
    have a := psum_bound x j (by omega) hx
    have b := psum_bound y j (by omega) hy
    simp only [crv]
    omega
  have b0 := hb i hi
  have b1 := hb ((i + 1) % 65) hm
  have he : ∀ j (h : j < (polygonP ((List.range 65).map (crv x y))).length), (polygonP ((List.range 65).map (crv x y)))[j]'h = edgeAt ((List.range 65).map (crv x y)) j := by intro j h; simp [polygonP_eq]
  have hee := he i h
  generalize (polygonP ((List.range 65).map (crv x y)))[i]'h = e at hee ⊢
  rw [hee]
  unfold edgeAt
  rw [hlen, key i hi, key _ hm]
  exact ⟨b0.1, b0.2, b1.1, b1.2⟩
end Go.Proofs.Ytmgcbodlolnheaa
