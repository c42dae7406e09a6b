/- FnCurvesAreAreas, whatever its arguments: true, if the plain law stands. -/
import Derived.Test.YtmgcbodlolnheaaWr
import Derived.Test.YtmgcbodlolnheaaRows
import Derived.Deep.Slices
import Derived.ProofKit
import Derived.OpenShut
namespace Go.Proofs.Ytmgcbodlolnheaa
open Go.ChangeShapes Go.WideShapes Go.ChangeAt Go.RowKit Go.Deep

theorem within_zero (a : Option Addr) (c : Nat) (far : Int) (w : World) :
    Calls Try.prog 10 #[.slice a 0 c, .int .i64 far] w fun e w' => e = .returned (.bool false) ∧ w = w' := by
  go_enter Try.func10, Try.ntmps10
  go_wp2
  refine wp_loop_rounds 1 ?_
  rw [rounds_succ]
  go_wp2
  go_ret
  exact ⟨rfl, rfl⟩

set_option maxRecDepth 100000 in
set_option maxHeartbeats 4000000 in
theorem curves_zero (W H : Int) (a : Option Addr) (c : Nat) (w : World) (hs : sizedB W H = true) (hW : W ≤ 200) (hH : H ≤ 200) :
    Calls Try.prog 3 #[.int .i64 W, .int .i64 H, .slice a 0 c] w fun e w' => e = .returned (.bool true) ∧ Below w.heap.size w w' := by
  have hb := (Below.refl w.heap.size w).alloc (Nat.le_refl _) (.cells #[.slice a 0 c] 22)
  have hlc : (w.alloc (.cells #[.slice a 0 c] 22)).cell? ⟨w.heap.size, 0, none⟩ = some (.slice a 0 c) := by rw [cell_of_row _ _ _ _ _ _ (heap_alloc_new w _)]; rfl
  obtain ⟨hW0, hH0⟩ := sizedB_pos hs
  go_enter Try.func3, Try.ntmps3
  go_wp2_with fail
  refine (several_no W H w.heap.size (.slice a 0 c) _ hs hW0 hH0 hW hH hlc ((within_zero a c _ _).mono ?_) ⟨_, _, _, rfl⟩).mono ?_
  · rintro e w' ⟨rfl, rfl⟩; exact ⟨rfl, Below.refl _ _⟩
  rintro e w' ⟨⟨u, v, rfl⟩, hb2⟩
  have hb3 := hb.trans (hb2.mono (by simp))
  go_wp2
  go_ret
  exact ⟨rfl, hb3⟩

set_option maxRecDepth 100000 in
set_option maxHeartbeats 4000000 in
theorem curves_long (W H : Int) (a : Option Addr) (n c : Nat) (w : World) (h : 2147483647 < n) :
    Calls Try.prog 3 #[.int .i64 W, .int .i64 H, .slice a n c] w fun e w' => e = .returned (.bool true) ∧ Below w.heap.size w w' := by
  have hl' : decide ((n : Int) > 2147483647) = true := by simp; omega
  go_enter Try.func3, Try.ntmps3
  go_wp2
  go_ret
  exact ⟨rfl, Below.refl _ _⟩

theorem withinB_inside {l : List (Int × Int)} {far : Int} (h : withinB l far = true) : ∀ i, i < l.length → (-far ≤ (l.getD i (0, 0)).1 ∧ (l.getD i (0, 0)).1 ≤ far) ∧ (-far ≤ (l.getD i (0, 0)).2 ∧ (l.getD i (0, 0)).2 ≤ far) := by
  intro i hi
  simp only [withinB, Bool.and_eq_true, List.all_eq_true] at h
  have := h.1.1 (l.getD i (0, 0)) (by simp only [List.getD, List.getElem?_eq_getElem hi, Option.getD_some]; exact List.getElem_mem hi)
  simp only [inside, beyondB, Bool.and_eq_true, Bool.not_eq_true', Bool.or_eq_false_iff, decide_eq_false_iff_not] at this
  omega

/-- Whatever the arguments. -/
theorem curves_all (law : BigLaw) (W H : Int) (pb po c : Nat) (l : List (Int × Int)) (w : World) (hlc : l.length ≤ c) (hp : Pts w pb po l) :
    Calls Try.prog 3 #[.int .i64 W, .int .i64 H, .slice (some ⟨pb, po, none⟩) l.length c] w fun e w' => e = .returned (.bool true) ∧ Below w.heap.size w w' := by
  cases hbig : (sizedB W H && decide (W ≤ 200) && decide (H ≤ 200)) with
  | false => exact curves_big W H _ _ _ w hbig
  | true =>
    simp only [Bool.and_eq_true, decide_eq_true_eq] at hbig
    obtain ⟨⟨hs, hW⟩, hH⟩ := hbig
    by_cases hl : 2147483647 < l.length
    · exact curves_long W H _ _ _ w hl
    · cases hwi : withinB l (64 * (64 + imin W H)) with
      | false => exact curves_no W H pb po c l w hs hW hH hlc (by omega) hp hwi
      | true =>
        by_cases hoff : l.length ≠ 3 ∨ 64 < W ∨ 64 < H
        · exact curves_off W H pb po c l w hs hW hH hlc hp hwi hoff
        · obtain ⟨hW0, hH0⟩ := sizedB_pos hs
          obtain ⟨n, rfl⟩ := Int.eq_ofNat_of_zero_le (show 0 ≤ W by omega)
          obtain ⟨m, rfl⟩ := Int.eq_ofNat_of_zero_le (show 0 ≤ H by omega)
          have hin := withinB_inside hwi
          have h3 : l.length = 3 := by omega
          have hm1 : 1 ≤ imin (n : Int) m := by unfold imin; split <;> omega
          have hm2 : imin (n : Int) m ≤ 64 := by unfold imin; split <;> omega
          exact curves_yes n m pb po c l (fun i => (l.getD i (0, 0)).1) (fun i => (l.getD i (0, 0)).2) w (by omega) (by omega) (by omega) (by omega) hlc hp hwi h3 (fun i _ => rfl)
            (fun j hj => by have := hin j (by omega); omega) (fun j hj => by have := hin j (by omega); omega)
            (law n m _ _ (by omega) (by omega) (by omega) (by omega) (fun j hj => (hin j (by omega)).1) (fun j hj => (hin j (by omega)).2))

theorem Try.own : ownKnob Try.prog.godebug = none := by kernel_rfl
theorem Try.laidOut : laidOutB Try.prog = true := by kernel_rfl
theorem Try.cells3_31 : Try.prog.cellsOf 31 = 2 := by kernel_rfl
theorem Try.cells3_3 : Try.prog.cellsOf 3 = 1 := by kernel_rfl

theorem open_pair {P : Program} {H : Type} {enc : TypeId × Value → H} {W : World} {base : Nat} {spare : Nat → Bool} {held : Bool} {fuel : Nat} {T E : TypeId} {cs : List Value} {x : DataW H × List MemPlace}
    (hT : P.underlying T = some (.array 2 E)) (hE : P.underlying E = some (.int .i64)) (hc : P.cellsOf E = 1) (h : DataW.trod enc P W base spare held fuel T cs = some x) (hlen : cs.length = 2) :
    ∃ z0 z1 : Int, cs = [.int .i64 z0, .int .i64 z1] := by
  obtain ⟨xs, k, _, _, _, hxl, hel⟩ := DataW.trod_array hT h
  have hcs : ∃ u0 u1, cs = [u0, u1] := by
    rcases cs with _ | ⟨u0, _ | ⟨u1, _ | ⟨u2, r⟩⟩⟩
    · cases hlen
    · cases hlen
    · exact ⟨_, _, rfl⟩
    · simp at hlen
  obtain ⟨u0, u1, rfl⟩ := hcs
  have e0 := hel 0 (by omega)
  have e1 := hel 1 (by omega)
  rw [hc, List.getElem?_eq_getElem (by omega)] at e0 e1
  obtain ⟨z0, hz0, _⟩ := DataW.trod_int hE e0
  obtain ⟨z1, hz1, _⟩ := DataW.trod_int hE e1
  have hu0 : u0 = .int .i64 z0 := by simpa using hz0
  have hu1 : u1 = .int .i64 z1 := by simpa using hz1
  exact ⟨z0, z1, by rw [hu0, hu1]⟩

/-- A slice of points, opened. -/
theorem open_points {H : Type} {enc : TypeId × Value → H} {W : World} {base : Nat} {spare : Nat → Bool} {held : Bool} {fuel : Nat} {v : Value} {x : DataW H × List MemPlace}
    (h : DataW.trod enc Try.prog W base spare held fuel 22 [v] = some x) :
    (∃ a c, v = .slice a 0 c) ∨ ∃ pb po c, ∃ l : List (Int × Int), v = .slice (some ⟨pb, po, none⟩) l.length c ∧ l.length ≤ c ∧ Pts W pb po l := by
  rcases open_slice Try.underlying22 h with ⟨e, _⟩ | ⟨a, len, cap, m, n, D, Pl, e, hb, hl, hm, hmm, hx, hcells⟩
  · exact .inl ⟨none, 0, by simpa using e⟩
  · have ev : v = .slice (some a) len cap := by simpa using e
    rcases Nat.eq_zero_or_pos len with h0 | hpos
    · subst h0; exact .inl ⟨_, _, ev⟩
    · right
      have hlm : len ≤ m := by rw [hmm]; split <;> omega
      have key : ∀ i, i < len → ∃ q : Int × Int, W.cell? (a.add (i * 2)) = some (.int .i64 q.1) ∧ W.cell? (a.add (i * 2 + 1)) = some (.int .i64 q.2) := by
        intro i hi
        obtain ⟨cs', h1, h2⟩ := hcells i (by omega)
        rw [Try.cells3_31] at h1
        obtain ⟨_, hlen, hat⟩ := World.cells?_some h1
        obtain ⟨z0, z1, rfl⟩ := open_pair Try.underlying31 Try.underlying3 Try.cells3_3 h2 hlen
        have a0 := hat 0 (by omega)
        have a1 := hat 1 (by omega)
        rw [add_add] at a0 a1
        exact ⟨(z0, z1), a0, a1⟩
      obtain ⟨q, hq⟩ := choose_lt key
      have hspot : a = ⟨a.block, a.off, none⟩ := by
        have := World.cell?_spot (hq 0 hpos).1
        obtain ⟨b, off, spot⟩ := a
        have hs : spot = none := by simpa [Addr.add] using this
        rw [hs]
      have hll : ((List.range len).map q).length = len := by simp
      refine ⟨a.block, a.off, cap, (List.range len).map q, by rw [hll, ev, ← hspot], by omega, ?_⟩
      intro i hi
      have hi' : i < len := by omega
      have hg : ((List.range len).map q).getD i (0, 0) = q i := by simp [List.getD, hi']
      obtain ⟨c0, c1⟩ := hq i hi'
      rw [hspot, Go.WideShapes.add_plain] at c0 c1
      rw [hg]
      exact ⟨c0, c1⟩

set_option maxRecDepth 100000 in
theorem curves_lifted (law : BigLaw) (os : Os) (started : os.Started) (H : Type) (enc : TypeId × Value → H) :
    ReturnsInHanded {} Try.checked os 3 .any (Rows.fnCurvesAreAreasSpec.pre6 enc Try.prog Try.f3 Rows.fnCurvesAreAreasRow.domain false) (Rows.fnCurvesAreAreasSpec.post enc Try.prog Try.f3 false true false false) := by
  refine returnsInHanded_of_change (C := Try.checked) Try.own started (by kernel_rfl) Try.func3
    (ChangeSpec.witness6 (enc := enc) (C := Try.checked) false ⟨#[], #[.int .i64 0, .int .i64 0, .slice none 0 0], []⟩ 8 (by kernel_rfl) (by kernel_rfl) (by kernel_rfl) (by kernel_rfl)) ?_
  intro W base args ds gs before hval0 hW hcnd _
  have hval : ∀ (j : Nat) t v, Try.f3.params[j]? = some t → args[j]? = some v → Value.okWide Try.prog W .any base t v := hval0
  have hW' := hW
  obtain ⟨p, q, hA0, hV, rfl, hfz, hnd⟩ := hW
  have hA : DataW.TrodAll enc Try.prog W 0 (fun _ => true) true Try.f3.params.toList args.toList ds p := hA0
  rw [Try.params3] at hA hval
  obtain ⟨v0, v1, v2, d0, d1, d2, p0, p1, p2, rfl, rfl, rfl, h0, h1, h2⟩ := trodAll_three hA
  obtain ⟨rfl, rfl⟩ := trodVars_none hV
  obtain ⟨a, rfl, rfl, rfl, wa⟩ := open_int Try.underlying3 (hval 0 3 v0 rfl rfl) h0
  obtain ⟨b, rfl, rfl, rfl, wb⟩ := open_int Try.underlying3 (hval 1 3 v1 rfl rfl) h1
  clear hA0 hval0
  have h2k := h2
  have hlt : ∀ x ∈ p2, x.block < W.heap.size := fun x hx => by simpa using hW'.lt x (by simp [hx])
  simp only [List.append_nil] at hW'
  have hcalls : Calls Try.prog 3 #[.int .i64 a, .int .i64 b, v2] W fun e w' => e = .returned (.bool true) ∧ Below W.heap.size W w' := by
    obtain ⟨a0, len, cap, rfl⟩ := okWide_slice Try.underlying22 (hval 2 22 v2 rfl rfl)
    obtain ⟨n2, h2'⟩ := h2
    simp only [Value.cells] at h2'
    rcases open_points h2' with ⟨a1, c1, e⟩ | ⟨pb, po, c1, l, e, hlc, hp⟩
    · rw [e]
      cases hbig : (sizedB a b && decide (a ≤ 200) && decide (b ≤ 200)) with
      | false => exact curves_big a b _ _ _ W hbig
      | true =>
        simp only [Bool.and_eq_true, decide_eq_true_eq] at hbig
        exact curves_zero a b a1 c1 W hbig.1.1 hbig.1.2 hbig.2
    · rw [e]
      exact curves_all law a b pb po c1 l W hlc hp
  refine hcalls.mono fun e W' ⟨he, hbw⟩ => ?_
  subst he
  exact ⟨_, rfl, _, _, _, [], [] ++ ([] ++ p2), [], hW', trodAll_mk1 (shut_bool Try.underlying4 true),
    trodAll_mk3 (shut_int Try.underlying3 wa) (shut_int Try.underlying3 wb) (Below.trod Try.laidOut (by kernel_rfl) (of_decide_eq_true (by kernel_rfl)) h2k hbw hlt), rfl, hbw.frame _, fun h => by cases h⟩

theorem x_of (law : BigLaw) : Rows.FnCurvesAreAreasSaid :=
  OpenClaim.holds_of_wide 3 Try.f3 rfl rfl rfl rfl rfl rfl rfl ⟨rfl, rfl, rfl, rfl, rfl⟩ rfl rfl rfl rfl rfl (by kernel_rfl) Try.func3 (by kernel_rfl)
    (of_decide_eq_true (by kernel_rfl)) (by unfold Func.isWrapper; first | (rw [if_pos (by decide +kernel)]; kernel_rfl) | (rw [if_neg (by decide +kernel)]; exact ⟨rfl, rfl⟩))
    (fun os started H enc _ => curves_lifted law os started H enc)
end Go.Proofs.Ytmgcbodlolnheaa
