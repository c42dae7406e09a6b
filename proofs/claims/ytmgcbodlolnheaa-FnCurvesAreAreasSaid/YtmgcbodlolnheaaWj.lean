/- The walks of sized, beyond, within. -/
import Derived.Test.YtmgcbodlolnheaaWi
namespace Go.Proofs.Ytmgcbodlolnheaa
open Go.RowKit

theorem ret_bool {a b : Bool} (h : a = b) : Ending.returned (.bool a) = .returned (.bool b) := by rw [h]

def sizedB (W H : Int) : Bool := decide (1 ≤ W) && decide (W ≤ 2000) && decide (1 ≤ H) && decide (H ≤ 2000) && decide (W * H ≤ 65536)
def beyondB (x far : Int) : Bool := decide (x < -far) || decide (far < x)

set_option maxHeartbeats 400000 in
theorem beyond19 (x far : Int) (w : World) (h1 : 0 ≤ far) (h2 : far ≤ 1000000) :
    Calls Try.prog 19 #[.int .i64 x, .int .i64 far] w fun e w' => e = .returned (.bool (beyondB x far)) ∧ w = w' := by
  by_cases ha : x < -far
  · have ha' : decide (x < -far) = true := by simpa using ha
    go_enter Try.func19, Try.ntmps19
    go_wp2
    go_ret
    exact ⟨by unfold beyondB; rw [ha']; rfl, rfl⟩
  · have ha' : decide (x < -far) = false := by simpa using ha
    by_cases hb : far < x
    · have hb' : decide (far < x) = true := by simpa using hb
      go_enter Try.func19, Try.ntmps19
      go_wp2
      go_ret
      exact ⟨by unfold beyondB; rw [ha', hb']; rfl, rfl⟩
    · have hb' : decide (far < x) = false := by simpa using hb
      go_enter Try.func19, Try.ntmps19
      go_wp2
      go_ret
      exact ⟨by unfold beyondB; rw [ha', hb']; rfl, rfl⟩

set_option maxHeartbeats 400000 in
theorem sized9 (W H : Int) (w : World) :
    Calls Try.prog 9 #[.int .i64 W, .int .i64 H] w fun e w' => e = .returned (.bool (sizedB W H)) ∧ w = w' := by
  by_cases h1 : 1 ≤ W
  · have h1' : decide (1 ≤ W) = true := by simpa using h1
    by_cases h2 : W ≤ 2000
    · have h2' : decide (W ≤ 2000) = true := by simpa using h2
      by_cases h3 : 1 ≤ H
      · have h3' : decide (1 ≤ H) = true := by simpa using h3
        by_cases h4 : H ≤ 2000
        · have h4' : decide (H ≤ 2000) = true := by simpa using h4
          have hb1 : 0 ≤ W * H := Int.mul_nonneg (by omega) (by omega)
          have hb2 : W * H ≤ 4000000 := by
            have := Int.mul_le_mul h2 h4 (by omega) (by omega)
            omega
          go_enter Try.func9, Try.ntmps9
          go_wp2
          go_ret
          exact ⟨by unfold sizedB; rw [h1', h2', h3', h4']; rfl, rfl⟩
        · have h4' : decide (H ≤ 2000) = false := by simpa using h4
          go_enter Try.func9, Try.ntmps9
          go_wp2
          go_ret
          exact ⟨by unfold sizedB; rw [h1', h2', h3', h4']; rfl, rfl⟩
      · have h3' : decide (1 ≤ H) = false := by simpa using h3
        go_enter Try.func9, Try.ntmps9
        go_wp2
        go_ret
        exact ⟨by unfold sizedB; rw [h1', h2', h3']; rfl, rfl⟩
    · have h2' : decide (W ≤ 2000) = false := by simpa using h2
      go_enter Try.func9, Try.ntmps9
      go_wp2
      go_ret
      exact ⟨by unfold sizedB; rw [h1', h2']; rfl, rfl⟩
  · have h1' : decide (1 ≤ W) = false := by simpa using h1
    go_enter Try.func9, Try.ntmps9
    go_wp2
    go_ret
    exact ⟨by unfold sizedB; rw [h1']; rfl, rfl⟩

/-- The points of a slice lie in memory. -/
def Pts (w : World) (pb po : Nat) (l : List (Int × Int)) : Prop :=
  ∀ i, i < l.length → w.cell? ⟨pb, po + i * 2, none⟩ = some (.int .i64 (l.getD i (0, 0)).1) ∧ w.cell? ⟨pb, po + i * 2 + 1, none⟩ = some (.int .i64 (l.getD i (0, 0)).2)

def inside (far : Int) (q : Int × Int) : Bool := !(beyondB q.1 far) && !(beyondB q.2 far)
def withinB (l : List (Int × Int)) (far : Int) : Bool := l.all (inside far) && decide (3 ≤ l.length) && decide (l.length ≤ 1000)

def WithinRel (w : World) (far : Int) (l : List (Int × Int)) (s9 : Value) (wx : World) : Prop :=
  ∃ i : Nat, s9 = .int .i64 i ∧ i ≤ l.length ∧ (l.take i).all (inside far) = true ∧ Below w.heap.size w wx

set_option maxHeartbeats 1000000 in
theorem within10 (pb po c : Nat) (l : List (Int × Int)) (far : Int) (w : World) (h1 : 0 ≤ far) (h2 : far ≤ 1000000) (hl : l.length ≤ 2147483647) (_hlc : l.length ≤ c) (hp : Pts w pb po l) :
    Calls Try.prog 10 #[.slice (some ⟨pb, po, none⟩) l.length c, .int .i64 far] w fun e w' => e = .returned (.bool (withinB l far)) ∧ Below w.heap.size w w' := by
  go_enter Try.func10, Try.ntmps10
  go_wp2
  go_loopw [9] (fun s9 wx => WithinRel w far l s9 wx) (fun s9 _ => l.length - (intOf s9).toNat)
  case atStart => exact ⟨0, rfl, Nat.zero_le _, rfl, Below.refl _ _⟩
  case round =>
    obtain ⟨i, rfl, hi, hall, hb⟩ := hrel
    by_cases hlt : i < l.length
    · have hlt' : decide ((i : Int) < l.length) = true := by simpa using hlt
      have hp1 := (hp i hlt).1
      have hp2 := (hp i hlt).2
      have hpb : pb < w.heap.size := World.block_lt_of_cell? w _ hp1
      have q1 : wr.cell? ⟨pb, po + i * 2, none⟩ = some (.int .i64 (l.getD i (0, 0)).1) := (hb.cell (p := ⟨pb, po + i * 2, none⟩) hpb).trans hp1
      have q2 : wr.cell? ⟨pb, po + i * 2 + 1, none⟩ = some (.int .i64 (l.getD i (0, 0)).2) := (hb.cell (p := ⟨pb, po + i * 2 + 1, none⟩) hpb).trans hp2
      clear hp1 hp2
      have hstep : (l.take (i + 1)).all (inside far) = inside far (l.getD i (0, 0)) := by
        rw [List.take_succ_eq_append_getElem hlt, List.all_append, hall]
        simp [List.getD, hlt]
      have hfull : inside far (l.getD i (0, 0)) = false → withinB l far = false := by
        intro h
        unfold withinB
        have : l.all (inside far) = false := by
          rw [← hstep] at h
          rw [Bool.eq_false_iff] at h ⊢
          intro hc
          apply h
          rw [List.all_eq_true] at hc ⊢
          exact fun x hx => hc x (List.mem_of_mem_take hx)
        rw [this]; rfl
      have hin : inside far (l.getD i (0, 0)) = (!(beyondB (l.getD i (0, 0)).1 far) && !(beyondB (l.getD i (0, 0)).2 far)) := rfl
      rw [hin] at hstep hfull
      clear hin
      generalize (l.getD i (0, 0)).1 = x at q1 hstep hfull
      generalize (l.getD i (0, 0)).2 = y at q2 hstep hfull
      have HS := Lib.hid hstep
      have HF := Lib.hid hfull
      clear hstep hfull hall
      go_wp2_with fail
      refine (beyond19 x far _ h1 h2).mono ?_
      rintro e w' ⟨rfl, rfl⟩
      cases hbx : beyondB x far
      case true =>
        have hf := HF.out (by rw [hbx]; rfl)
        clear HS HF hbx
        have HF := Lib.hid hf
        clear hf
        go_wp2
        go_ret
        exact ⟨ret_bool HF.out.symm, hb.alloc hb.size _⟩
      case false =>
        have hs := HS.out
        have hf := HF.out
        rw [hbx] at hs hf
        clear HS HF hbx
        have HS := Lib.hid hs
        have HF := Lib.hid hf
        clear hs hf
        go_wp2_with fail
        refine (beyond19 y far _ h1 h2).mono ?_
        rintro e w' ⟨rfl, rfl⟩
        cases hby : beyondB y far
        case true =>
          have hf := HF.out (by rw [hby]; rfl)
          clear HS HF hby
          have HF := Lib.hid hf
          clear hf
          go_wp2
          go_ret
          exact ⟨ret_bool HF.out.symm, hb.alloc hb.size _⟩
        case false =>
          have hs := HS.out
          rw [hby] at hs
          clear HS HF hby
          have HS := Lib.hid hs
          clear hs
          go_wp2
          go_roundw
          case rel => exact ⟨i + 1, by go_num, hlt, HS.out, hb.alloc hb.size _⟩
          case measure => simp [intOf]; omega
    · have hil : i = l.length := by omega
      subst hil
      rw [List.take_length] at hall
      have hlt' : decide ((l.length : Int) < l.length) = false := by simp
      by_cases h3 : 3 ≤ l.length
      · have h3' : decide (3 ≤ l.length) = true := by simpa using h3
        have hw : withinB l far = decide (l.length ≤ 1000) := by unfold withinB; rw [hall, h3']; rfl
        have HW := Lib.hid hw
        clear hw hall
        go_wp2
        go_ret
        exact ⟨ret_bool (by rw [HW.out]; exact decide_eq_decide.2 (by omega)), hb⟩
      · have h3' : decide (3 ≤ l.length) = false := by simpa using h3
        have hw : withinB l far = false := by unfold withinB; rw [hall, h3']; rfl
        have HW := Lib.hid hw
        clear hw hall
        go_wp2
        go_ret
        exact ⟨ret_bool HW.out.symm, hb⟩
end Go.Proofs.Ytmgcbodlolnheaa
