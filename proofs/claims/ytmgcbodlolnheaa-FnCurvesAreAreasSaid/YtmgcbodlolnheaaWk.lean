/- The walk of point. -/
import Derived.Test.YtmgcbodlolnheaaWj
namespace Go.Proofs.Ytmgcbodlolnheaa
open Go.RowKit

/-- The terms of a point's coordinate. -/
def term (x : Nat → Int) (k : Int) : Nat → Int
  | 0 => x 0 * (64 - k) * (64 - k)
  | 1 => 2 * x 1 * k * (64 - k)
  | 2 => x 2 * k * k
  | _ => 0
def psum (x : Nat → Int) (k : Int) : Nat → Int
  | 0 => 0
  | j + 1 => psum x k j + term x k j
def part (x : Nat → Int) (k : Int) : Nat → Nat → Int
  | 0, 0 => x 0
  | 0, 1 => x 0 * (64 - k)
  | 0, _ => x 0 * (64 - k) * (64 - k)
  | 1, 0 => 2 * x 1
  | 1, 1 => 2 * x 1 * k
  | 1, _ => 2 * x 1 * k * (64 - k)
  | 2, 0 => x 2
  | 2, 1 => x 2 * k
  | 2, _ => x 2 * k * k
  | _, _ => 0

theorem mul_bd {a b A B : Int} (h1 : -A ≤ a) (h2 : a ≤ A) (h3 : 0 ≤ b) (h4 : b ≤ B) (hA : 0 ≤ A) : -(A * B) ≤ a * b ∧ a * b ≤ A * B := by
  have e1 : a * b ≤ A * b := Int.mul_le_mul_of_nonneg_right h2 h3
  have e2 : A * b ≤ A * B := Int.mul_le_mul_of_nonneg_left h4 hA
  have e3 : -A * b ≤ a * b := Int.mul_le_mul_of_nonneg_right h1 h3
  rw [Int.neg_mul] at e3
  omega

def SumRel (w : World) (x : Nat → Int) (k : Int) (s9 s17 : Value) (wx : World) : Prop :=
  ∃ j : Nat, s17 = .int .i64 j ∧ s9 = .int .i64 (psum x k j) ∧ j ≤ 3 ∧ Below w.heap.size w wx

def PartRel (w : World) (x : Nat → Int) (k : Int) (j : Nat) (s13 s39 : Value) (wx : World) : Prop :=
  ∃ a : Nat, s39 = .int .i64 a ∧ s13 = .int .i64 (part x k j a) ∧ a ≤ 2 ∧ Below w.heap.size w wx

theorem psum_bd (x : Nat → Int) (k : Int) (h0 : 0 ≤ k) (h1 : k ≤ 64) (hx0 : -8192 ≤ x 0 ∧ x 0 ≤ 8192) (hx1 : -8192 ≤ x 1 ∧ x 1 ≤ 8192) (hx2 : -8192 ≤ x 2 ∧ x 2 ≤ 8192) :
    (-500000000 ≤ psum x k 1 ∧ psum x k 1 ≤ 500000000) ∧ (-500000000 ≤ psum x k 2 ∧ psum x k 2 ≤ 500000000) ∧ (-500000000 ≤ psum x k 3 ∧ psum x k 3 ≤ 500000000) := by
  have a1 := mul_bd (a := x 0) (b := 64 - k) (A := 8192) (B := 64) hx0.1 hx0.2 (by omega) (by omega) (by omega)
  have a2 := mul_bd (a := x 0 * (64 - k)) (b := 64 - k) (A := 524288) (B := 64) (by omega) (by omega) (by omega) (by omega) (by omega)
  have b1 := mul_bd (a := 2 * x 1) (b := k) (A := 16384) (B := 64) (by omega) (by omega) (by omega) (by omega) (by omega)
  have b2 := mul_bd (a := 2 * x 1 * k) (b := 64 - k) (A := 1048576) (B := 64) (by omega) (by omega) (by omega) (by omega) (by omega)
  have c1 := mul_bd (a := x 2) (b := k) (A := 8192) (B := 64) hx2.1 hx2.2 (by omega) (by omega) (by omega)
  have c2 := mul_bd (a := x 2 * k) (b := k) (A := 524288) (B := 64) (by omega) (by omega) (by omega) (by omega) (by omega)
  simp only [psum, term]
  omega

def OneRel (w : World) (s10 s61 : Value) (wx : World) : Prop :=
  ∃ a : Nat, s61 = .int .i64 a ∧ s10 = .int .i64 ((64 : Int) ^ a) ∧ a ≤ 2 ∧ Below w.heap.size w wx

set_option maxRecDepth 100000 in
set_option maxHeartbeats 4000000 in
theorem point18_0 (pb po c : Nat) (x : Nat → Int) (k : Nat) (w : World) (hk : k ≤ 64) (_hc : 3 ≤ c)
    (q0 : w.cell? ⟨pb, po, none⟩ = some (.int .i64 (x 0))) (q1 : w.cell? ⟨pb, po + 2, none⟩ = some (.int .i64 (x 1))) (q2 : w.cell? ⟨pb, po + 4, none⟩ = some (.int .i64 (x 2)))
    (hx : ∀ j, j < 3 → -8192 ≤ x j ∧ x j ≤ 8192) :
    Calls Try.prog 18 #[.slice (some ⟨pb, po, none⟩) 3 c, .int .i64 k, .int .i64 64, .int .i64 0] w fun e w' => e = .returned (.int .i64 (psum x k 3)) ∧ Below w.heap.size w w' := by
  have hpb : pb < w.heap.size := World.block_lt_of_cell? w _ q0
  obtain ⟨x0l, x0h⟩ := hx 0 (by omega)
  obtain ⟨x1l, x1h⟩ := hx 1 (by omega)
  obtain ⟨x2l, x2h⟩ := hx 2 (by omega)
  clear hx
  have hkI : (k : Int) ≤ 64 := by omega
  have hk0 : (0 : Int) ≤ k := by omega
  have hsb := psum_bd x k hk0 hkI ⟨x0l, x0h⟩ ⟨x1l, x1h⟩ ⟨x2l, x2h⟩
  have HSB := Lib.hid hsb
  clear hsb
  go_enter Try.func18, Try.ntmps18
  go_wp2
  go_loopw [9, 17] (fun s9 s17 wx => SumRel w x k s9 s17 wx) (fun _ s17 _ => 3 - (intOf s17).toNat)
  case atStart => exact ⟨0, rfl, rfl, by omega, Below.refl _ _⟩
  case round =>
    obtain ⟨j, rfl, rfl, hj, hb⟩ := hrel
    have e0 := (hb.cell (p := ⟨pb, po, none⟩) hpb).trans q0
    have e1 := (hb.cell (p := ⟨pb, po + 2, none⟩) hpb).trans q1
    have e2 := (hb.cell (p := ⟨pb, po + 4, none⟩) hpb).trans q2
    have hpbr : pb < wr.heap.size := Nat.lt_of_lt_of_le hpb hb.size
    clear q0 q1 q2
    by_cases h3 : j = 3
    · subst h3
      have hs3 := HSB.out.2.2
      clear HSB
      generalize hS : psum x k 3 = S at hs3 ⊢
      have HS : Hid (psum x k 3 = S) := hS
      clear hS
      go_wp2
      go_loopw [10, 61] (fun s10 s61 wx => OneRel w s10 s61 wx) (fun _ s61 _ => 2 - (intOf s61).toNat)
      case atStart => exact ⟨0, rfl, rfl, by omega, hb⟩
      case round =>
        clear hb
        obtain ⟨a, rfl, rfl, ha, hb⟩ := hrel
        by_cases a0 : a = 0
        · subst a0
          go_wp2
          go_roundw
          case rel => exact ⟨1, rfl, rfl, by omega, hb⟩
          case measure => simp [intOf]
        · by_cases a1 : a = 1
          · subst a1
            go_wp2
            go_roundw
            case rel => exact ⟨2, rfl, rfl, by omega, hb⟩
            case measure => simp [intOf]
          · obtain rfl : a = 2 := by omega
            go_wp2
            go_ret
            exact ⟨ret_int (by rw [HS.out]), hb⟩
    · by_cases hj0 : j = 0
      · subst hj0
        have hs1 := HSB.out.1
        clear HSB
        have b1 := mul_bd (a := x 0) (b := 64 - k) (A := 8192) (B := 64) x0l x0h (by omega) (by omega) (by omega)
        have b2 := mul_bd (a := x 0 * (64 - k)) (b := 64 - k) (A := 524288) (B := 64) (by omega) (by omega) (by omega) (by omega) (by omega)
        go_wp2
        go_quiet (fail)
        go_wp2
        go_loopw [13, 39] (fun s13 s39 wx => PartRel w x k 0 s13 s39 wx) (fun _ s39 _ => 2 - (intOf s39).toNat)
        case atStart => exact ⟨0, rfl, rfl, by omega, (hb.alloc hb.size _).trans (below_drewN (Below.refl _ _) _)⟩
        case round =>
          clear hb
          obtain ⟨a, rfl, rfl, ha, hb⟩ := hrel
          by_cases a0 : a = 0
          · subst a0
            have ep : part x k 0 0 = x 0 := rfl
            rw [ep]
            clear ep
            go_wp2
            go_roundw
            case rel => exact ⟨1, rfl, rfl, by omega, hb⟩
            case measure => simp [intOf]
          · by_cases a1 : a = 1
            · subst a1
              have ep : part x k 0 1 = x 0 * (64 - k) := rfl
              rw [ep]
              clear ep
              go_wp2
              go_roundw
              case rel => exact ⟨2, rfl, rfl, by omega, hb⟩
              case measure => simp [intOf]
            · obtain rfl : a = 2 := by omega
              have ep : part x k 0 2 = x 0 * (64 - k) * (64 - k) := rfl
              rw [ep]
              have es : psum x k (0 + 1) = psum x k 0 + x 0 * (64 - k) * (64 - k) := rfl
              have ES := Lib.hid es
              have hs0 : -1000000000 ≤ psum x k 0 ∧ psum x k 0 ≤ 1000000000 := by rw [es] at hs1; omega
              rw [es] at hs1
              obtain ⟨hs0a, hs0b⟩ := hs0
              clear ep es
              generalize psum x k 0 = S0 at *
              go_wp2
              go_roundw
              case rel => exact ⟨0 + 1, rfl, congrArg (Value.int .i64) ES.out.symm, by omega, hb⟩
              case measure => simp [intOf]
      · by_cases hj1 : j = 1
        · subst hj1
          have hs1 := HSB.out.2.1
          clear HSB
          have b1 := mul_bd (a := 2 * x 1) (b := k) (A := 16384) (B := 64) (by omega) (by omega) (by omega) (by omega) (by omega)
          have b2 := mul_bd (a := 2 * x 1 * k) (b := 64 - k) (A := 1048576) (B := 64) (by omega) (by omega) (by omega) (by omega) (by omega)
          go_wp2
          go_quiet (fail)
          go_wp2
          go_loopw [13, 39] (fun s13 s39 wx => PartRel w x k 1 s13 s39 wx) (fun _ s39 _ => 2 - (intOf s39).toNat)
          case atStart => exact ⟨0, rfl, rfl, by omega, (hb.alloc hb.size _).trans (below_drewN (Below.refl _ _) _)⟩
          case round =>
            clear hb
            obtain ⟨a, rfl, rfl, ha, hb⟩ := hrel
            by_cases a0 : a = 0
            · subst a0
              have ep : part x k 1 0 = 2 * x 1 := rfl
              rw [ep]
              clear ep
              go_wp2
              go_roundw
              case rel => exact ⟨1, rfl, rfl, by omega, hb⟩
              case measure => simp [intOf]
            · by_cases a1 : a = 1
              · subst a1
                have ep : part x k 1 1 = 2 * x 1 * k := rfl
                rw [ep]
                clear ep
                go_wp2
                go_roundw
                case rel => exact ⟨2, rfl, rfl, by omega, hb⟩
                case measure => simp [intOf]
              · obtain rfl : a = 2 := by omega
                have ep : part x k 1 2 = 2 * x 1 * k * (64 - k) := rfl
                rw [ep]
                have es : psum x k (1 + 1) = psum x k 1 + 2 * x 1 * k * (64 - k) := rfl
                have ES := Lib.hid es
                have hs0 : -1000000000 ≤ psum x k 1 ∧ psum x k 1 ≤ 1000000000 := by rw [es] at hs1; omega
                rw [es] at hs1
                obtain ⟨hs0a, hs0b⟩ := hs0
                clear ep es
                generalize psum x k 1 = S0 at *
                go_wp2
                go_roundw
                case rel => exact ⟨1 + 1, rfl, congrArg (Value.int .i64) ES.out.symm, by omega, hb⟩
                case measure => simp [intOf]
        · by_cases hj2 : j = 2
          · subst hj2
            have hs1 := HSB.out.2.2
            clear HSB
            have b1 := mul_bd (a := x 2) (b := k) (A := 8192) (B := 64) x2l x2h (by omega) (by omega) (by omega)
            have b2 := mul_bd (a := x 2 * k) (b := k) (A := 524288) (B := 64) (by omega) (by omega) (by omega) (by omega) (by omega)
            go_wp2
            go_quiet (fail)
            go_wp2
            go_loopw [13, 39] (fun s13 s39 wx => PartRel w x k 2 s13 s39 wx) (fun _ s39 _ => 2 - (intOf s39).toNat)
            case atStart => exact ⟨0, rfl, rfl, by omega, (hb.alloc hb.size _).trans (below_drewN (Below.refl _ _) _)⟩
            case round =>
              clear hb
              obtain ⟨a, rfl, rfl, ha, hb⟩ := hrel
              by_cases a0 : a = 0
              · subst a0
                have ep : part x k 2 0 = x 2 := rfl
                rw [ep]
                clear ep
                go_wp2
                go_roundw
                case rel => exact ⟨1, rfl, rfl, by omega, hb⟩
                case measure => simp [intOf]
              · by_cases a1 : a = 1
                · subst a1
                  have ep : part x k 2 1 = x 2 * k := rfl
                  rw [ep]
                  clear ep
                  go_wp2
                  go_roundw
                  case rel => exact ⟨2, rfl, rfl, by omega, hb⟩
                  case measure => simp [intOf]
                · obtain rfl : a = 2 := by omega
                  have ep : part x k 2 2 = x 2 * k * k := rfl
                  rw [ep]
                  have es : psum x k (2 + 1) = psum x k 2 + x 2 * k * k := rfl
                  have ES := Lib.hid es
                  have hs0 : -1000000000 ≤ psum x k 2 ∧ psum x k 2 ≤ 1000000000 := by rw [es] at hs1; omega
                  rw [es] at hs1
                  obtain ⟨hs0a, hs0b⟩ := hs0
                  clear ep es
                  generalize psum x k 2 = S0 at *
                  go_wp2
                  go_roundw
                  case rel => exact ⟨2 + 1, rfl, congrArg (Value.int .i64) ES.out.symm, by omega, hb⟩
                  case measure => simp [intOf]
          · omega

set_option maxRecDepth 100000 in
set_option maxHeartbeats 4000000 in
theorem point18_1 (pb po c : Nat) (x : Nat → Int) (k : Nat) (w : World) (hk : k ≤ 64) (_hc : 3 ≤ c)
    (q0 : w.cell? ⟨pb, po + 1, none⟩ = some (.int .i64 (x 0))) (q1 : w.cell? ⟨pb, po + 2 + 1, none⟩ = some (.int .i64 (x 1))) (q2 : w.cell? ⟨pb, po + 4 + 1, none⟩ = some (.int .i64 (x 2)))
    (hx : ∀ j, j < 3 → -8192 ≤ x j ∧ x j ≤ 8192) :
    Calls Try.prog 18 #[.slice (some ⟨pb, po, none⟩) 3 c, .int .i64 k, .int .i64 64, .int .i64 1] w fun e w' => e = .returned (.int .i64 (psum x k 3)) ∧ Below w.heap.size w w' := by
  have hpb : pb < w.heap.size := World.block_lt_of_cell? w _ q0
  obtain ⟨x0l, x0h⟩ := hx 0 (by omega)
  obtain ⟨x1l, x1h⟩ := hx 1 (by omega)
  obtain ⟨x2l, x2h⟩ := hx 2 (by omega)
  clear hx
  have hkI : (k : Int) ≤ 64 := by omega
  have hk0 : (0 : Int) ≤ k := by omega
  have hsb := psum_bd x k hk0 hkI ⟨x0l, x0h⟩ ⟨x1l, x1h⟩ ⟨x2l, x2h⟩
  have HSB := Lib.hid hsb
  clear hsb
  go_enter Try.func18, Try.ntmps18
  go_wp2
  go_loopw [9, 17] (fun s9 s17 wx => SumRel w x k s9 s17 wx) (fun _ s17 _ => 3 - (intOf s17).toNat)
  case atStart => exact ⟨0, rfl, rfl, by omega, Below.refl _ _⟩
  case round =>
    obtain ⟨j, rfl, rfl, hj, hb⟩ := hrel
    have e0 := (hb.cell (p := ⟨pb, po + 1, none⟩) hpb).trans q0
    have e1 := (hb.cell (p := ⟨pb, po + 2 + 1, none⟩) hpb).trans q1
    have e2 := (hb.cell (p := ⟨pb, po + 4 + 1, none⟩) hpb).trans q2
    have hpbr : pb < wr.heap.size := Nat.lt_of_lt_of_le hpb hb.size
    clear q0 q1 q2
    by_cases h3 : j = 3
    · subst h3
      have hs3 := HSB.out.2.2
      clear HSB
      generalize hS : psum x k 3 = S at hs3 ⊢
      have HS : Hid (psum x k 3 = S) := hS
      clear hS
      go_wp2
      go_loopw [10, 61] (fun s10 s61 wx => OneRel w s10 s61 wx) (fun _ s61 _ => 2 - (intOf s61).toNat)
      case atStart => exact ⟨0, rfl, rfl, by omega, hb⟩
      case round =>
        clear hb
        obtain ⟨a, rfl, rfl, ha, hb⟩ := hrel
        by_cases a0 : a = 0
        · subst a0
          go_wp2
          go_roundw
          case rel => exact ⟨1, rfl, rfl, by omega, hb⟩
          case measure => simp [intOf]
        · by_cases a1 : a = 1
          · subst a1
            go_wp2
            go_roundw
            case rel => exact ⟨2, rfl, rfl, by omega, hb⟩
            case measure => simp [intOf]
          · obtain rfl : a = 2 := by omega
            go_wp2
            go_ret
            exact ⟨ret_int (by rw [HS.out]), hb⟩
    · by_cases hj0 : j = 0
      · subst hj0
        have hs1 := HSB.out.1
        clear HSB
        have b1 := mul_bd (a := x 0) (b := 64 - k) (A := 8192) (B := 64) x0l x0h (by omega) (by omega) (by omega)
        have b2 := mul_bd (a := x 0 * (64 - k)) (b := 64 - k) (A := 524288) (B := 64) (by omega) (by omega) (by omega) (by omega) (by omega)
        go_wp2
        go_quiet (fail)
        go_wp2
        go_loopw [13, 39] (fun s13 s39 wx => PartRel w x k 0 s13 s39 wx) (fun _ s39 _ => 2 - (intOf s39).toNat)
        case atStart => exact ⟨0, rfl, rfl, by omega, (hb.alloc hb.size _).trans (below_drewN (Below.refl _ _) _)⟩
        case round =>
          clear hb
          obtain ⟨a, rfl, rfl, ha, hb⟩ := hrel
          by_cases a0 : a = 0
          · subst a0
            have ep : part x k 0 0 = x 0 := rfl
            rw [ep]
            clear ep
            go_wp2
            go_roundw
            case rel => exact ⟨1, rfl, rfl, by omega, hb⟩
            case measure => simp [intOf]
          · by_cases a1 : a = 1
            · subst a1
              have ep : part x k 0 1 = x 0 * (64 - k) := rfl
              rw [ep]
              clear ep
              go_wp2
              go_roundw
              case rel => exact ⟨2, rfl, rfl, by omega, hb⟩
              case measure => simp [intOf]
            · obtain rfl : a = 2 := by omega
              have ep : part x k 0 2 = x 0 * (64 - k) * (64 - k) := rfl
              rw [ep]
              have es : psum x k (0 + 1) = psum x k 0 + x 0 * (64 - k) * (64 - k) := rfl
              have ES := Lib.hid es
              have hs0 : -1000000000 ≤ psum x k 0 ∧ psum x k 0 ≤ 1000000000 := by rw [es] at hs1; omega
              rw [es] at hs1
              obtain ⟨hs0a, hs0b⟩ := hs0
              clear ep es
              generalize psum x k 0 = S0 at *
              go_wp2
              go_roundw
              case rel => exact ⟨0 + 1, rfl, congrArg (Value.int .i64) ES.out.symm, by omega, hb⟩
              case measure => simp [intOf]
      · by_cases hj1 : j = 1
        · subst hj1
          have hs1 := HSB.out.2.1
          clear HSB
          have b1 := mul_bd (a := 2 * x 1) (b := k) (A := 16384) (B := 64) (by omega) (by omega) (by omega) (by omega) (by omega)
          have b2 := mul_bd (a := 2 * x 1 * k) (b := 64 - k) (A := 1048576) (B := 64) (by omega) (by omega) (by omega) (by omega) (by omega)
          go_wp2
          go_quiet (fail)
          go_wp2
          go_loopw [13, 39] (fun s13 s39 wx => PartRel w x k 1 s13 s39 wx) (fun _ s39 _ => 2 - (intOf s39).toNat)
          case atStart => exact ⟨0, rfl, rfl, by omega, (hb.alloc hb.size _).trans (below_drewN (Below.refl _ _) _)⟩
          case round =>
            clear hb
            obtain ⟨a, rfl, rfl, ha, hb⟩ := hrel
            by_cases a0 : a = 0
            · subst a0
              have ep : part x k 1 0 = 2 * x 1 := rfl
              rw [ep]
              clear ep
              go_wp2
              go_roundw
              case rel => exact ⟨1, rfl, rfl, by omega, hb⟩
              case measure => simp [intOf]
            · by_cases a1 : a = 1
              · subst a1
                have ep : part x k 1 1 = 2 * x 1 * k := rfl
                rw [ep]
                clear ep
                go_wp2
                go_roundw
                case rel => exact ⟨2, rfl, rfl, by omega, hb⟩
                case measure => simp [intOf]
              · obtain rfl : a = 2 := by omega
                have ep : part x k 1 2 = 2 * x 1 * k * (64 - k) := rfl
                rw [ep]
                have es : psum x k (1 + 1) = psum x k 1 + 2 * x 1 * k * (64 - k) := rfl
                have ES := Lib.hid es
                have hs0 : -1000000000 ≤ psum x k 1 ∧ psum x k 1 ≤ 1000000000 := by rw [es] at hs1; omega
                rw [es] at hs1
                obtain ⟨hs0a, hs0b⟩ := hs0
                clear ep es
                generalize psum x k 1 = S0 at *
                go_wp2
                go_roundw
                case rel => exact ⟨1 + 1, rfl, congrArg (Value.int .i64) ES.out.symm, by omega, hb⟩
                case measure => simp [intOf]
        · by_cases hj2 : j = 2
          · subst hj2
            have hs1 := HSB.out.2.2
            clear HSB
            have b1 := mul_bd (a := x 2) (b := k) (A := 8192) (B := 64) x2l x2h (by omega) (by omega) (by omega)
            have b2 := mul_bd (a := x 2 * k) (b := k) (A := 524288) (B := 64) (by omega) (by omega) (by omega) (by omega) (by omega)
            go_wp2
            go_quiet (fail)
            go_wp2
            go_loopw [13, 39] (fun s13 s39 wx => PartRel w x k 2 s13 s39 wx) (fun _ s39 _ => 2 - (intOf s39).toNat)
            case atStart => exact ⟨0, rfl, rfl, by omega, (hb.alloc hb.size _).trans (below_drewN (Below.refl _ _) _)⟩
            case round =>
              clear hb
              obtain ⟨a, rfl, rfl, ha, hb⟩ := hrel
              by_cases a0 : a = 0
              · subst a0
                have ep : part x k 2 0 = x 2 := rfl
                rw [ep]
                clear ep
                go_wp2
                go_roundw
                case rel => exact ⟨1, rfl, rfl, by omega, hb⟩
                case measure => simp [intOf]
              · by_cases a1 : a = 1
                · subst a1
                  have ep : part x k 2 1 = x 2 * k := rfl
                  rw [ep]
                  clear ep
                  go_wp2
                  go_roundw
                  case rel => exact ⟨2, rfl, rfl, by omega, hb⟩
                  case measure => simp [intOf]
                · obtain rfl : a = 2 := by omega
                  have ep : part x k 2 2 = x 2 * k * k := rfl
                  rw [ep]
                  have es : psum x k (2 + 1) = psum x k 2 + x 2 * k * k := rfl
                  have ES := Lib.hid es
                  have hs0 : -1000000000 ≤ psum x k 2 ∧ psum x k 2 ≤ 1000000000 := by rw [es] at hs1; omega
                  rw [es] at hs1
                  obtain ⟨hs0a, hs0b⟩ := hs0
                  clear ep es
                  generalize psum x k 2 = S0 at *
                  go_wp2
                  go_roundw
                  case rel => exact ⟨2 + 1, rfl, congrArg (Value.int .i64) ES.out.symm, by omega, hb⟩
                  case measure => simp [intOf]
          · omega

end Go.Proofs.Ytmgcbodlolnheaa
