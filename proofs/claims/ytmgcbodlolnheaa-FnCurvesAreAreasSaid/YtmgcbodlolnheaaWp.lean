/- The walk of Area: one edge. -/
import Derived.Test.YtmgcbodlolnheaaWo
import Derived.BigRegion
namespace Go.Proofs.Ytmgcbodlolnheaa
open Go.RowKit

noncomputable def body17 : Code := (Try.f17.body.bind firstLoop).getD .skip

set_option maxRecDepth 100000 in
/-- The frame at an edge's head: what is not named is f. -/
def fr17 (gb n c : Nat) (x y one : Int) (f : Nat → Value) : Array Value :=
  #[.slice (some ⟨gb, 0, none⟩) n c, .int .i64 x, .int .i64 y, .int .i64 one, f 4, f 5, f 6, f 7, f 8, f 9, f 10, f 11, f 12, f 13, f 14, f 15, f 16, f 17, f 18, f 19, f 20,
    f 21, f 22, f 23, f 24, f 25, f 26, f 27, .slice (some ⟨gb, 0, none⟩) n c, .int .i64 n, f 30, f 31, f 32, f 33, f 34, f 35, f 36, f 37, f 38, f 39, f 40, f 41, f 42,
    f 43, f 44, f 45, f 46, f 47, f 48, f 49, f 50, f 51, f 52, f 53, f 54, f 55, f 56, f 57, f 58, f 59, f 60, f 61, f 62, f 63, f 64, f 65, f 66, f 67, f 68, f 69, f 70,
    f 71, f 72, f 73, f 74, f 75, f 76, f 77, f 78, f 79, f 80, f 81, f 82, f 83, f 84, f 85, f 86, f 87, f 88, f 89, f 90, f 91, f 92, f 93, f 94, f 95, f 96, f 97, f 98,
    f 99, f 100, f 101, f 102, f 103, f 104, f 105, f 106, f 107, f 108, f 109, f 110, f 111, f 112, f 113, f 114, f 115, f 116, f 117, f 118, f 119, f 120, f 121, f 122,
    f 123, f 124, f 125, f 126, f 127, f 128, f 129, f 130, f 131, f 132, f 133, f 134, f 135, f 136, f 137, f 138, f 139, f 140, f 141, f 142, f 143, f 144, f 145, f 146,
    f 147, f 148, f 149, f 150, f 151, f 152, f 153, f 154, f 155, f 156, f 157, f 158, f 159, f 160, f 161, f 162, f 163, f 164, f 165, f 166, f 167, f 168, f 169, f 170,
    f 171, f 172, f 173, f 174, f 175, f 176, f 177, f 178, f 179, f 180, f 181, f 182, f 183, f 184, f 185, f 186, f 187, f 188, f 189, f 190, f 191, f 192, f 193, f 194,
    f 195, f 196, f 197, f 198, f 199, f 200, f 201, f 202, f 203, f 204, f 205, f 206, f 207, f 208, f 209, f 210, f 211, f 212, f 213, f 214, f 215, f 216, f 217, f 218,
    f 219, f 220, f 221, f 222, f 223, f 224, f 225, f 226, f 227, f 228]

/-- The edges lie in memory. -/
def Eds (w : World) (gb : Nat) (l : List Edge) : Prop :=
  ∀ i (h : i < l.length), w.cell? ⟨gb, i * 4, none⟩ = some (.int .i64 l[i].x0) ∧ w.cell? ⟨gb, i * 4 + 1, none⟩ = some (.int .i64 l[i].y0) ∧
    w.cell? ⟨gb, i * 4 + 2, none⟩ = some (.int .i64 l[i].x1) ∧ w.cell? ⟨gb, i * 4 + 3, none⟩ = some (.int .i64 l[i].y1)

def AreaRel (w : World) (x y one : Int) (l : List Edge) (r : Nat) (s9 s30 : Value) (wx : World) : Prop :=
  ∃ (k sum : Nat), s9 = .float .f64 sum ∧ s30 = .int .i64 k ∧ k ≤ l.length ∧ Hid (areaSum x y one (l.drop k) sum = some r) ∧ Below w.heap.size w wx

def AreaInv (w : World) (gb c : Nat) (x y one : Int) (l : List Edge) (r : Nat) (a : Act) (wx : World) : Prop :=
  ∃ f : Nat → Value, AreaRel w x y one l r (f 9) (f 30) wx ∧ a = ⟨fr17 gb l.length c x y one f, []⟩

def areaMu (n : Nat) (a : Act) (_ : World) : Nat := n - (intOf (a.tmps.getD 30 undef)).toNat

theorem area_mk {w : World} {gb c : Nat} {x y one : Int} {l : List Edge} {r : Nat} {wx : World} (tmps : Array Value) (k sum : Nat)
    (hfr : tmps = fr17 gb l.length c x y one (fun k => tmps.getD k undef)) (h9 : tmps.getD 9 undef = .float .f64 sum) (h30 : tmps.getD 30 undef = .int .i64 k)
    (hk : k ≤ l.length) (H1 : areaSum x y one (l.drop k) sum = some r) (hb : Below w.heap.size w wx) : AreaInv w gb c x y one l r ⟨tmps, []⟩ wx :=
  ⟨fun k => tmps.getD k undef, ⟨k, sum, h9, h30, hk, H1, hb⟩, congrArg (fun t => (⟨t, []⟩ : Act)) hfr⟩

/-- Behind the turn of an edge. -/
def TurnRel (w : World) (eb : Nat) (x y one : Int) (sum s : Nat) (s12 : Value) (wx : World) : Prop :=
  ∃ (sg : Nat) (a0 b0 a1 b1 : Int), s12 = .float .f64 sg ∧ wx.heap[eb]? = some (.cells #[.int .i64 a0, .int .i64 b0, .int .i64 a1, .int .i64 b1] 50 (0, 0)) ∧
    Hid (areaDown sg a0 b0 a1 b1 x y one sum = some s) ∧ (-100000000 ≤ a0 ∧ a0 ≤ 100000000) ∧ (-100000000 ≤ b0 ∧ b0 ≤ 100000000) ∧ (-100000000 ≤ a1 ∧ a1 ≤ 100000000) ∧ (-100000000 ≤ b1 ∧ b1 ≤ 100000000) ∧ Below w.heap.size w wx

/-- What stands behind the edges' loop. -/
def areaQ (w : World) (gb n c : Nat) (x y one : Int) (r : Nat) : Exit → Act → World → Prop
  | .exit 0, a, wx => ∃ f : Nat → Value, a = ⟨fr17 gb n c x y one f, []⟩ ∧ f 9 = .float .f64 r ∧ Below w.heap.size w wx
  | _, _, _ => False
theorem areaQ_mk {w : World} {gb n c : Nat} {x y one : Int} {r : Nat} {wx : World} (tmps : Array Value) (hfr : tmps = fr17 gb n c x y one (fun k => tmps.getD k undef))
    (h9 : tmps.getD 9 undef = .float .f64 r) (hb : Below w.heap.size w wx) : areaQ w gb n c x y one r (.exit 0) ⟨tmps, []⟩ wx :=
  ⟨fun k => tmps.getD k undef, congrArg (fun t => (⟨t, []⟩ : Act)) hfr, h9, hb⟩

theorem Try.info37 : (Try.prog.info? 37).map (fun i => (i.zero, i.size, i.bytes)) = some (some (.float .f64 0), 1, 8) := by kernel_rfl

def fCells (l : List Nat) : List Value := l.map (.float .f64)

/-- The slice of cuts, made behind the slope's cell. -/
def CutsRel (wd : World) (slope : Nat) (C : List Nat) (s17 : Value) (wx : World) : Prop :=
  wx.ownsRow (wd.heap.size + 1) 37 1 s17 C.length (fCells C) ∧ Below (wd.heap.size + 1) (wd.alloc (.cells #[.float .f64 slope] 37)) wx

def entry (x one : Int) (j : Nat) : Int := if j = 0 then one * x else one * x + one
def cutFrom (x0 y0 : Int) (slope top bottom : Nat) (x one : Int) : Nat → List Nat → Option (List Nat)
  | 0, C => (cutAdd x0 y0 slope top bottom (one * x) C).bind fun c => cutAdd x0 y0 slope top bottom (one * x + one) c
  | 1, C => cutAdd x0 y0 slope top bottom (one * x + one) C
  | _, C => some C
theorem cutFrom_step (x0 y0 : Int) (slope top bottom : Nat) (x one : Int) (j : Nat) (hj : j < 2) (C : List Nat) :
    cutFrom x0 y0 slope top bottom x one j C = (cutAdd x0 y0 slope top bottom (entry x one j) C).bind (cutFrom x0 y0 slope top bottom x one (j + 1)) := by
  obtain rfl | rfl : j = 0 ∨ j = 1 := by omega
  · rfl
  · show cutAdd _ _ _ _ _ _ _ = (cutAdd _ _ _ _ _ (one * x + one) _).bind _
    cases cutAdd x0 y0 slope top bottom (one * x + one) C <;> rfl

def SortRel (wd : World) (slope g cap : Nat) (L : List Nat) (wx : World) : Prop :=
  wx.ownsRow (wd.heap.size + 1) 37 1 (.slice (some ⟨g, 0, none⟩) L.length cap) L.length (fCells L) ∧ Below (wd.heap.size + 1) (wd.alloc (.cells #[.float .f64 slope] 37)) wx

def TrapRel (wd : World) (slope g cap n : Nat) (S : List Nat) (right side sg : Nat) (x0 y0 : Int) (r : Nat) (s9 s25 : Value) (wx : World) : Prop :=
  ∃ (i sm : Nat), s25 = .int .i64 i ∧ s9 = .float .f64 sm ∧ 1 ≤ i ∧ i ≤ n ∧ Hid (trapL right side sg x0 y0 slope (S.getD (i - 1) 0) (S.drop i) sm = some r) ∧ SortRel wd slope g cap S wx

theorem sink_length (k : Nat) : ∀ l : List Nat, (sink k l).length = l.length := by
  induction k with
  | zero => intro l; rfl
  | succ k ih =>
    intro l
    unfold sink
    split
    · rw [ih]; simp
    · rfl
theorem sortTo_length (k : Nat) (l : List Nat) : (sortTo k l).length = l.length := by
  induction k with
  | zero => rfl
  | succ k ih => unfold sortTo; rw [sink_length, ih]

theorem cutAdd_length {x0 y0 : Int} {slope top bottom : Nat} {e : Int} {C C' : List Nat} (h : cutAdd x0 y0 slope top bottom e C = some C') : C.length ≤ C'.length ∧ C'.length ≤ C.length + 1 := by
  unfold cutAdd at h
  simp only [Option.bind_eq_some_iff, Option.some.injEq] at h
  obtain ⟨q, _, c, _, rfl⟩ := h
  split <;> simp
theorem cutsOf_length {x0 y0 x1 : Int} {slope top bottom : Nat} {x one : Int} {C : List Nat} (h : cutsOf x0 y0 x1 slope top bottom x one = some C) : 2 ≤ C.length ∧ C.length ≤ 4 := by
  unfold cutsOf at h
  split at h
  · cases h; simp
  · simp only [Option.bind_eq_some_iff] at h
    obtain ⟨c, h1, h2⟩ := h
    have a := cutAdd_length h1
    have b := cutAdd_length h2
    simp at a
    omega

def CutLoop (wd : World) (slope : Nat) (x0 y0 : Int) (top bottom : Nat) (x one : Int) (cuts : List Nat) (ib : Nat) (s17 s99 : Value) (wx : World) : Prop :=
  ∃ (j : Nat) (C : List Nat), s99 = .int .i64 j ∧ j ≤ 2 ∧ 2 ≤ C.length ∧ C.length ≤ 2 + j ∧ Hid (cutFrom x0 y0 slope top bottom x one j C = some cuts) ∧ CutsRel wd slope C s17 wx ∧
    (∀ i, i < 2 → wx.cell? ⟨ib, i, none⟩ = some (.int .i64 (entry x one i))) ∧ s17.ownBlock ≠ some ib

set_option maxRecDepth 100000 in
set_option maxHeartbeats 8000000 in
theorem area_round (w : World) (gb c : Nat) (x y one : Int) (l : List Edge) (r : Nat) (hn : l.length ≤ 1000)
    (hx0 : 0 ≤ x) (hx1 : x ≤ 64) (hy0 : 0 ≤ y) (hy1 : y ≤ 64) (ho0 : 0 ≤ one) (ho1 : one ≤ 262144)
    (hE : Eds w gb l) (hbd : ∀ i (h : i < l.length), (-100000000 ≤ l[i].x0 ∧ l[i].x0 ≤ 100000000) ∧ (-100000000 ≤ l[i].y0 ∧ l[i].y0 ≤ 100000000) ∧ (-100000000 ≤ l[i].x1 ∧ l[i].x1 ≤ 100000000) ∧ (-100000000 ≤ l[i].y1 ∧ l[i].y1 ≤ 100000000))
    (f : Nat → Value) (wr : World)
    (hrel : AreaRel w x y one l r (f 9) (f 30) wr) :
    Code.wp Try.prog body17 (Exit.then (fun a' w' => AreaInv w gb c x y one l r a' w' ∧ areaMu l.length a' w' < areaMu l.length ⟨fr17 gb l.length c x y one f, []⟩ wr) (areaQ w gb l.length c x y one r))
      ⟨fr17 gb l.length c x y one f, []⟩ wr := by
  obtain ⟨k, sum, h9, h30, hk, HR, hb⟩ := hrel
  have hmu : areaMu l.length ⟨fr17 gb l.length c x y one f, []⟩ wr = l.length - k := by
    show l.length - (intOf (f 30)).toNat = _
    rw [h30]; simp [intOf]
  rw [hmu]
  unfold fr17
  rw [h9, h30]
  clear hmu
  conv => arg 2; whnf
  by_cases hlt : k < l.length
  · have hlt' : decide ((k : Int) < l.length) = true := by simp; omega
    have hdrop : l.drop k = l[k] :: l.drop (k + 1) := List.drop_eq_getElem_cons hlt
    have hr := HR.out
    rw [hdrop] at hr
    unfold areaSum at hr
    rw [Option.bind_eq_some_iff] at hr
    obtain ⟨s, hs, hr⟩ := hr
    obtain ⟨e0, e1, e2, e3⟩ := hE k hlt
    obtain ⟨⟨bx0, bx0'⟩, ⟨by0, by0'⟩, ⟨bx1, bx1'⟩, ⟨by1, by1'⟩⟩ := hbd k hlt
    have hgb : gb < w.heap.size := World.block_lt_of_cell? w _ e0
    have q0 := (hb.cell (p := ⟨gb, k * 4, none⟩) hgb).trans e0
    have q1 := (hb.cell (p := ⟨gb, k * 4 + 1, none⟩) hgb).trans e1
    have q2 := (hb.cell (p := ⟨gb, k * 4 + 2, none⟩) hgb).trans e2
    have q3 := (hb.cell (p := ⟨gb, k * 4 + 3, none⟩) hgb).trans e3
    unfold areaEdge at hs
    generalize l[k].x0 = X0 at *
    generalize l[k].y0 = Y0 at *
    generalize l[k].x1 = X1 at *
    generalize l[k].y1 = Y1 at *
    have HS := Lib.hid hs
    have HREST := Lib.hid hr
    clear hs hr hdrop HR e0 e1 e2 e3 hE hbd
    go_upto_if 38 with (fail)
    have hbw := hb.alloc hb.size (.cells #[Value.int .i64 X0, .int .i64 Y0, .int .i64 X1, .int .i64 Y1] 50)
    have hbw2 := hb.alloc hb.size (.cells #[Value.int .i64 X1, .int .i64 Y1, .int .i64 X0, .int .i64 Y0] 50)
    have HZ := Lib.hid (heap_alloc_new wr (.cells #[Value.int .i64 X0, .int .i64 Y0, .int .i64 X1, .int .i64 Y1] 50))
    have HZ2 := Lib.hid (heap_alloc_new wr (.cells #[Value.int .i64 X1, .int .i64 Y1, .int .i64 X0, .int .i64 Y0] 50))
    have heb : w.heap.size ≤ wr.heap.size := hb.size
    go_cut [12] from 34 to 47 (TurnRel w wr.heap.size x y one sum s)
    case first =>
      by_cases hsw : Y1 < Y0
      · have hsw' : decide (Y1 < Y0) = true := by simpa using hsw
        have hs := HS.out
        rw [if_pos hsw] at hs
        clear HS
        have HS := Lib.hid hs
        clear hs
        go_wp2
        go_meet
        exact ⟨dm1, X1, Y1, X0, Y0, rfl, HZ2.out, HS, ⟨bx1, bx1'⟩, ⟨by1, by1'⟩, ⟨bx0, bx0'⟩, ⟨by0, by0'⟩, hbw2⟩
      · have hsw' : decide (Y1 < Y0) = false := by simpa using hsw
        have hs := HS.out
        rw [if_neg hsw] at hs
        clear HS
        have HS := Lib.hid hs
        clear hs
        go_wp2
        go_meet
        exact ⟨d1, X0, Y0, X1, Y1, rfl, HZ.out, HS, ⟨bx0, bx0'⟩, ⟨by0, by0'⟩, ⟨bx1, bx1'⟩, ⟨by1, by1'⟩, hbw⟩
    case rest =>
      obtain ⟨sg, a0, b0, a1, b1, rfl, hz, HD, ⟨ba0, ba0'⟩, ⟨bb0, bb0'⟩, ⟨ba1, ba1'⟩, ⟨bb1, bb1'⟩, hbw⟩ := hcut
      clear hbw2 HZ HZ2 HS q0 q1 q2 q3 bx0 bx0' by0 by0' bx1 bx1' by1 by1' hb
      generalize hebd : wr.heap.size = eb at hz heb ⊢
      have HEB := Lib.hid hebd
      clear hebd
      have z0 : wc.cell? ⟨eb, 0, none⟩ = some (.int .i64 a0) := cell_of_row wc eb 0 _ 50 (0, 0) hz
      have z1 : wc.cell? ⟨eb, 1, none⟩ = some (.int .i64 b0) := cell_of_row wc eb 1 _ 50 (0, 0) hz
      have z2 : wc.cell? ⟨eb, 2, none⟩ = some (.int .i64 a1) := cell_of_row wc eb 2 _ 50 (0, 0) hz
      have z3 : wc.cell? ⟨eb, 3, none⟩ = some (.int .i64 b1) := cell_of_row wc eb 3 _ 50 (0, 0) hz
      have hoy := mul_bd (a := one) (b := y) (A := 262144) (B := 64) (by omega) ho1 hy0 hy1 (by omega)
      have hox := mul_bd (a := one) (b := x) (A := 262144) (B := 64) (by omega) ho1 hx0 hx1 (by omega)
      have hoy0 : 0 ≤ one * y := Int.mul_nonneg ho0 hy0
      have hox0 : 0 ≤ one * x := Int.mul_nonneg ho0 hx0
      obtain ⟨_, hoy1⟩ := hoy
      obtain ⟨_, hox1⟩ := hox
      have hd := HD.out
      unfold areaDown imax imin of64 ge64 at hd
      clear HD
      have w1 : IntKind.i64.wrap (one * y) = one * y := by rw [IntKind.wrap_i64]; omega
      have w2 : IntKind.i64.wrap (one * y + one) = one * y + one := by rw [IntKind.wrap_i64]; omega
      have w3 : IntKind.i64.wrap (a1 - a0) = a1 - a0 := by rw [IntKind.wrap_i64]; omega
      have w4 : IntKind.i64.wrap (b1 - b0) = b1 - b0 := by rw [IntKind.wrap_i64]; omega
      generalize hT : (if one * y > b0 then one * y else b0) = T at hd
      generalize hBt : (if one * y + one < b1 then one * y + one else b1) = Bt at hd
      have HD := Lib.hid hd
      clear hd
      go_wp2_with fail
      go_quiet (fail)
      go_upto_if 66 with (fail)
      have hbd : Below w.heap.size w (wc.drewN nq) := ⟨hbw.os, hbw.tape, hbw.output, hbw.size, hbw.block⟩
      have y0 : (wc.drewN nq).cell? ⟨eb, 0, none⟩ = some (.int .i64 a0) := z0
      have y1 : (wc.drewN nq).cell? ⟨eb, 1, none⟩ = some (.int .i64 b0) := z1
      have y2 : (wc.drewN nq).cell? ⟨eb, 2, none⟩ = some (.int .i64 a1) := z2
      have y3 : (wc.drewN nq).cell? ⟨eb, 3, none⟩ = some (.int .i64 b1) := z3
      have hebw : eb < (wc.drewN nq).heap.size := World.block_lt_of_cell? _ _ y0
      clear z0 z1 z2 z3 hbw hz
      generalize wc.drewN nq = wd at *
      have hd := HD.out
      clear HD
      generalize (FloatKind.f64.format.order (floatOfInt .f64 T) (floatOfInt .f64 Bt) == some .gt || FloatKind.f64.format.order (floatOfInt .f64 T) (floatOfInt .f64 Bt) == some .eq) = B at hd ⊢
      cases B
      case true =>
        simp only [if_true, Option.some.injEq] at hd
        subst hd
        go_wp2
        refine ⟨area_mk _ (k + 1) sum (by kernel_rfl) rfl (by go_num) (by omega) HREST.out hbd, ?_⟩
        show l.length - (intOf _).toNat < _
        simp [intOf]; omega
      case false =>
        simp only [Bool.false_eq_true, if_false, Option.bind_eq_some_iff] at hd
        obtain ⟨slope, hsl, cuts, hcuts, hd⟩ := hd
        have r1 := rdiv64 hsl
        have HD := Lib.hid hd
        have HC := Lib.hid hcuts
        clear hd hcuts hsl
        have hmf : ∀ fn first cap w, (Instr.makeFunc fn first cap).run Try.prog w = .ok (.func fn first cap) w := fun _ _ _ _ => rfl
        obtain ⟨i0, hi, hz0, hz1, hz2⟩ := info_parts Try.info37
        go_upto_if 88 with (fail)
        have hcr : CutsRel wd slope [floatOfInt .f64 T, floatOfInt .f64 Bt] (.slice (some ⟨wd.heap.size + 1, 0, none⟩) 2 2) ((wd.alloc (.cells #[.float .f64 slope] 37)).alloc (.cells #[.float .f64 (floatOfInt .f64 T), .float .f64 (floatOfInt .f64 Bt)] 37)) :=
          ⟨by have := World.ownsRow_lit (e := 37) (size := 1) (base := wd.heap.size + 1) (wd.alloc (.cells #[.float .f64 slope] 37)) #[.float .f64 (floatOfInt .f64 T), .float .f64 (floatOfInt .f64 Bt)] 2 (by simp) (by unfold maxLen; omega) rfl
              simpa [fCells] using this, (Below.refl _ _).alloc (by simp) _⟩
        have HCR := Lib.hid hcr
        clear hcr
        go_cut [17] from 84 to 126 (CutsRel wd slope cuts)
        case first =>
          by_cases hne : a0 = a1
          · have hne' : decide (a0 ≠ a1) = false := by simpa using hne
            have hc := HC.out
            unfold cutsOf at hc
            rw [if_pos hne, Option.some.injEq] at hc
            subst hc
            go_wp2
            go_meet
            exact HCR.out
          · have hne' : decide (a0 ≠ a1) = true := by simpa using hne
            have hc := HC.out
            unfold cutsOf at hc
            rw [if_neg hne] at hc
            have HC2 := Lib.hid hc
            clear hc HC
            have hI0 := heap_alloc_new ((wd.alloc (.cells #[.float .f64 slope] 37)).alloc (.cells #[.float .f64 (floatOfInt .f64 T), .float .f64 (floatOfInt .f64 Bt)] 37)) (.cells #[.int .i64 (one * x), .int .i64 (one * x + one)] 3)
            simp only [World.size_alloc] at hI0
            have hI : ∀ i, i < 2 → (((wd.alloc (.cells #[.float .f64 slope] 37)).alloc (.cells #[.float .f64 (floatOfInt .f64 T), .float .f64 (floatOfInt .f64 Bt)] 37)).alloc (.cells #[.int .i64 (one * x), .int .i64 (one * x + one)] 3)).cell? ⟨wd.heap.size + 1 + 1, i, none⟩ = some (.int .i64 (entry x one i)) := by
              intro i hi
              rw [cell_of_row _ _ _ _ _ _ hI0]
              obtain rfl | rfl : i = 0 ∨ i = 1 := by omega
              · rfl
              · rfl
            have HI := Lib.hid hI
            clear hI hI0
            have hy : ∀ {j : Nat} {v : Value}, wd.cell? ⟨eb, j, none⟩ = some v → ∀ wx, Below (wd.heap.size + 1) (wd.alloc (.cells #[.float .f64 slope] 37)) wx → wx.cell? ⟨eb, j, none⟩ = some v := fun {j v} h wx hbx =>
              (hbx.cell (p := ⟨eb, j, none⟩) (by simp; omega)).trans (((World.grownBy_alloc wd _ none).cell h (by simp)))
            have hys : ∀ wx, Below (wd.heap.size + 1) (wd.alloc (.cells #[.float .f64 slope] 37)) wx → wx.cell? ⟨wd.heap.size, 0, none⟩ = some (.float .f64 slope) := fun wx hbx =>
              (hbx.cell (p := ⟨wd.heap.size, 0, none⟩) (by simp)).trans (cell_of_row _ _ _ _ _ _ (heap_alloc_new wd _))
            have Y0 := Lib.hid (hy y0)
            have Y1 := Lib.hid (hy y1)
            have YS := Lib.hid hys
            clear hy hys y0 y1 y2 y3
            go_wp2
            go_loopw [17, 99] (fun s17 s99 wx => CutLoop wd slope a0 b0 (floatOfInt .f64 T) (floatOfInt .f64 Bt) x one cuts (wd.heap.size + 1 + 1) s17 s99 wx) (fun _ s99 _ => 2 - (intOf s99).toNat)
            case atStart => exact ⟨0, _, rfl, by omega, by simp, by simp, HC2, ⟨HCR.out.1.alloc _, HCR.out.2.alloc (by simp) _⟩, HI.out, by simp [Value.ownBlock]⟩
            case round =>
              obtain ⟨j, C, rfl, hj, hC1, hC2, HF, ⟨hown, hbx⟩, hI, hno⟩ := hrel
              by_cases hlt : j < 2
              · have hlt' : decide ((j : Int) < 2) = true := by simp; omega
                have e0 := Y0.out wr hbx
                have e1 := Y1.out wr hbx
                have es := YS.out wr hbx
                have ei := hI j hlt
                have hf := HF.out
                rw [cutFrom_step _ _ _ _ _ _ _ _ hlt, Option.bind_eq_some_iff] at hf
                obtain ⟨C', hc', hf⟩ := hf
                have HF' := Lib.hid hf
                clear hf HF
                generalize hE : entry x one j = E at ei hc'
                unfold cutAdd of64 gt64 lt64 at hc'
                simp only [Option.bind_eq_some_iff, Option.some.injEq] at hc'
                obtain ⟨q, hq, cc, hcc, hc'⟩ := hc'
                have r3 := rdiv64 hq
                have r4 := radd64 hcc
                have hEb : IntKind.i64.wrap (E - a0) = E - a0 := by
                  rw [IntKind.wrap_i64]
                  rw [← hE]; unfold entry; split <;> omega
                have hn63 : C.length + 1 ≤ maxLen := by unfold maxLen; omega
                obtain ⟨g, cap, rfl, hg1, hg2⟩ := hown.form (by omega)
                have hCut : ∀ b, b = (FloatKind.f64.format.order cc (floatOfInt .f64 T) == some .gt && FloatKind.f64.format.order cc (floatOfInt .f64 Bt) == some .lt) → (if b = true then C ++ [cc] else C) = C' := fun b hb => hb ▸ hc'
                clear hc' hq hcc
                cases hB1 : (FloatKind.f64.format.order cc (floatOfInt .f64 T) == some .gt)
                · have hC' := hCut false (by rw [hB1]; rfl)
                  simp only [Bool.false_eq_true, if_false] at hC'
                  subst hC'
                  clear hCut
                  go_wp2
                  go_roundw
                  case rel => exact ⟨j + 1, C, by go_num, by omega, hC1, by omega, HF', ⟨hown, hbx⟩, hI, hno⟩
                  case measure => simp [intOf]; omega
                · cases hB2 : (FloatKind.f64.format.order cc (floatOfInt .f64 Bt) == some .lt)
                  · have hC' := hCut false (by rw [hB1, hB2]; rfl)
                    simp only [Bool.false_eq_true, if_false] at hC'
                    subst hC'
                    clear hCut
                    go_wp2
                    go_roundw
                    case rel => exact ⟨j + 1, C, by go_num, by omega, hC1, by omega, HF', ⟨hown, hbx⟩, hI, hno⟩
                    case measure => simp [intOf]; omega
                  · have hC' := hCut true (by rw [hB1, hB2]; rfl)
                    simp only [if_true] at hC'
                    subst hC'
                    clear hCut
                    have hn : ∀ i u, [Value.float .f64 cc][i]? = some u → (wr.alloc (.cells #[Value.float .f64 cc] 37)).cell? ((⟨wr.heap.size, 0, none⟩ : Addr).add i) = some u :=
                      World.news_of_block (heap_alloc_new wr _)
                    have h1 : ∀ u ∈ [Value.float .f64 cc], u.oneCell' = true := by simp [Value.oneCell']
                    have hbz : wd.heap.size + 1 ≤ wr.heap.size := by simpa using hbx.size
                    have hba : wd.heap.size + 1 ≤ (wr.alloc (.cells #[Value.float .f64 cc] 37)).heap.size := Nat.le_trans hbz (by simp)
                    have HN := Lib.hid hn
                    have H1 := Lib.hid h1
                    clear hn h1
                    have hib : ∀ i, i < 2 → (wr.alloc (.cells #[Value.float .f64 cc] 37)).cell? ⟨wd.heap.size + 1 + 1, i, none⟩ = some (.int .i64 (entry x one i)) := fun i hi =>
                      (World.grownBy_alloc wr _ none).cell (hI i hi) (by simp)
                    have hibl := World.block_lt_of_cell? _ _ (hI 0 (by omega))
                    have HIB := Lib.hid hib
                    clear hib hI
                    go_wp2_with (at_builtin; refine wpList_append_lies _ rfl _ _ 69 rfl (wd.heap.size + 1) 37 i0 _ 1 8 Try.underlying69 hi hz0 hz1 hz2 rfl (by decide) _ C.length _ rfl (hown.alloc _) ⟨wr.heap.size, 0, none⟩ 1 1 [.float .f64 cc] rfl rfl HN.out H1.out (by omega) hn63 (by omega) hba (wr.heap.size + 1) (by simp) ?_; intro g' cap' w3 hown3 hgrow hat hltg)
                    have hbw3 : Below (wd.heap.size + 1) (wd.alloc (.cells #[.float .f64 slope] 37)) w3 := (hbx.alloc hbz _).grown hgrow hba (fun j hj => (hown.alloc (.cells #[Value.float .f64 cc] 37)).lt j hj |>.1)
                    refine ⟨⟨_, _, _, _, ?rel, rfl, rfl, rfl, rfl⟩, ?measure⟩
                    case rel => exact ⟨j + 1, C ++ [cc], by go_num, by omega, by simp; omega, by simp; omega, HF', ⟨by simpa [fCells] using hown3, hbw3⟩, fun i hi => hgrow.cell (HIB.out i hi) (fun e => hno e.symm), by
                      have hat2 : some g = some g' ∨ g' = wr.heap.size + 1 := hat
                      have hno2 : some g ≠ some (wd.heap.size + 1 + 1) := hno
                      show some g' ≠ some (wd.heap.size + 1 + 1)
                      intro e
                      have hibl2 : wd.heap.size + 1 + 1 < wr.heap.size := hibl
                      rcases hat2 with h | h
                      · exact hno2 (h.trans e)
                      · have e2 := Option.some.inj e
                        rw [h] at e2
                        exact absurd e2 (Nat.ne_of_gt (Nat.lt_succ_of_lt hibl2))⟩
                    case measure => simp [intOf]; omega
              · obtain rfl : j = 2 := by omega
                have hf := HF.out
                simp only [cutFrom, Option.some.injEq] at hf
                subst hf
                clear HF HI hI
                go_wp2
                go_meet
                exact ⟨hown, hbx⟩
        case rest =>
          obtain ⟨hown, hbx⟩ := hcut
          have hlen := cutsOf_length HC.out
          clear HC HCR
          obtain ⟨g, cap, rfl, hg1, hg2⟩ := hown.form (by omega)
          clear hg1 hg2 hi hz0 hz1 hz2
          have hlen1 := hlen.1
          have hlen2 := hlen.2
          go_wp2
          go_loopw [129] (fun s129 wx => ∃ i : Nat, s129 = .int .i64 i ∧ i ≤ cuts.length ∧ SortRel wd slope g cap (sortTo i cuts) wx) (fun s129 _ => cuts.length - (intOf s129).toNat)
          case atStart => exact ⟨0, rfl, by omega, hown, hbx⟩
          case round =>
            obtain ⟨i, rfl, hi, hsr⟩ := hrel
            have hll : (sortTo i cuts).length = cuts.length := sortTo_length i cuts
            by_cases hlt : i < cuts.length
            · have hlt' : decide ((i : Int) < cuts.length) = true := by simp; omega
              go_wp2
              go_loopw [22] (fun s22 wx => ∃ (j : Nat) (L : List Nat), s22 = .int .i64 j ∧ j ≤ i ∧ L.length = cuts.length ∧ Hid (sink j L = sortTo (i + 1) cuts) ∧ SortRel wd slope g cap L wx) (fun s22 _ => (intOf s22).toNat)
              case atStart => exact ⟨i, _, rfl, by omega, hll, rfl, hsr⟩
              case round =>
                clear hsr
                obtain ⟨j, L, rfl, hj, hL, HSK, hown, hbx⟩ := hrel
                rw [hL] at hown
                have hcell : ∀ q, q < cuts.length → wr.cell? ⟨g, q, none⟩ = some (.float .f64 (L.getD q 0)) := by
                  intro q hq
                  rw [hown.cellAt q (by omega)]
                  unfold fCells
                  rw [List.getElem?_map, List.getElem?_eq_getElem (by omega)]
                  simp [List.getD, List.getElem?_eq_getElem (show q < L.length by omega)]
                cases j with
                | zero =>
                  have hj0 : decide (((0 : Nat) : Int) > 0) = false := by simp
                  have hsk : L = sortTo (i + 1) cuts := HSK.out
                  subst hsk
                  go_wp2
                  go_quiet (fail)
                  have hown' : (wr.drewN nq).ownsRow (wd.heap.size + 1) 37 1 (.slice (some ⟨g, 0, none⟩) (sortTo (i + 1) cuts).length cap) (sortTo (i + 1) cuts).length (fCells (sortTo (i + 1) cuts)) := by rw [hL]; exact hown
                  have hbx' : Below (wd.heap.size + 1) (wd.alloc (.cells #[.float .f64 slope] 37)) (wr.drewN nq) := ⟨hbx.os, hbx.tape, hbx.output, hbx.size, hbx.block⟩
                  go_wp2
                  go_roundw
                  case rel => exact ⟨i + 1, by go_num, by omega, hown', hbx'⟩
                  case measure => simp [intOf]; omega
                | succ j =>
                  have hj0 : decide (((j + 1 : Nat) : Int) > 0) = true := by simp
                  have c1 := hcell (j + 1) (by omega)
                  have c0 := hcell j (by omega)
                  have hsk := HSK.out
                  unfold sink lt64 at hsk
                  clear HSK hcell
                  generalize hu : L.getD (j + 1) 0 = u at c1 hsk
                  generalize hv : L.getD j 0 = v at c0 hsk
                  have hown' := hown
                  have HU := Lib.hid hu
                  have HV := Lib.hid hv
                  clear hu hv
                  go_wp2
                  go_quiet (fail)
                  go_upto_if 146 with (fail)
                  generalize (FloatKind.f64.format.order u v == some .lt) = B at hsk ⊢
                  cases B
                  · simp only [Bool.false_eq_true, if_false] at hsk
                    subst hsk
                    have hown' : (wr.drewN nq).ownsRow (wd.heap.size + 1) 37 1 (.slice (some ⟨g, 0, none⟩) (sortTo (i + 1) cuts).length cap) (sortTo (i + 1) cuts).length (fCells (sortTo (i + 1) cuts)) := by rw [hL]; exact hown
                    have hbx' : Below (wd.heap.size + 1) (wd.alloc (.cells #[.float .f64 slope] 37)) (wr.drewN nq) := ⟨hbx.os, hbx.tape, hbx.output, hbx.size, hbx.block⟩
                    go_wp2
                    go_roundw
                    case rel => exact ⟨i + 1, by go_num, by omega, hown', hbx'⟩
                    case measure => simp [intOf]; omega
                  · simp only [if_true] at hsk
                    have HSK := Lib.hid hsk
                    have hown' : (wr.drewN nq).ownsRow (wd.heap.size + 1) 37 1 (.slice (some ⟨g, 0, none⟩) cuts.length cap) cuts.length (fCells L) := hown
                    have hbx' : Below (wd.heap.size + 1) (wd.alloc (.cells #[.float .f64 slope] 37)) (wr.drewN nq) := ⟨hbx.os, hbx.tape, hbx.output, hbx.size, hbx.block⟩
                    have c1' : (wr.drewN nq).cell? ⟨g, j + 1, none⟩ = some (.float .f64 u) := c1
                    have c0' : (wr.drewN nq).cell? ⟨g, j, none⟩ = some (.float .f64 v) := c0
                    clear hown hbx c1 c0 hsk
                    generalize wr.drewN nq = wq at *
                    have f1 := hown'.frozenAt (j + 1)
                    have f0 := hown'.frozenAt j
                    have j1 : IntKind.i64.wrap (((j + 1 : Nat) : Int) - 1) = (j : Int) := by rw [IntKind.wrap_i64]; push_cast; omega
                    go_upto_region 28 with (fail)
                    go_big_region
                    have o1 := hown'.stored (j + 1) (.float .f64 v)
                    have o2 := o1.1.stored j (.float .f64 u)
                    have hgb1 := (hown'.lt g rfl).1
                    have hown2 : ((wq.setCell ⟨g, j + 1, none⟩ (.float .f64 v)).setCell ⟨g, j, none⟩ (.float .f64 u)).drew.ownsRow (wd.heap.size + 1) 37 1 (.slice (some ⟨g, 0, none⟩) ((L.set (j + 1) v).set j u).length cap) ((L.set (j + 1) v).set j u).length (fCells ((L.set (j + 1) v).set j u)) := by
                      have e : fCells ((L.set (j + 1) v).set j u) = ((fCells L).set (j + 1) (.float .f64 v)).set j (.float .f64 u) := by simp [fCells, List.map_set]
                      rw [e, List.length_set, List.length_set, hL]
                      exact o2.1
                    have hbx2 : Below (wd.heap.size + 1) (wd.alloc (.cells #[.float .f64 slope] 37)) ((wq.setCell ⟨g, j + 1, none⟩ (.float .f64 v)).setCell ⟨g, j, none⟩ (.float .f64 u)).drew := by
                      have := (hbx'.setCell (p := ⟨g, j + 1, none⟩) hgb1 (.float .f64 v)).setCell (p := ⟨g, j, none⟩) hgb1 (.float .f64 u)
                      exact ⟨this.os, this.tape, this.output, this.size, this.block⟩
                    generalize ((wq.setCell ⟨g, j + 1, none⟩ (.float .f64 v)).setCell ⟨g, j, none⟩ (.float .f64 u)).drew = wz at hown2 hbx2 ⊢
                    clear o1 o2 hgb1 f1 f0 c1' c0' hown' hbx'
                    go_wp2
                    go_roundw
                    case rel => exact ⟨j, _, by go_num, by omega, by simp [hL], HSK, hown2, hbx2⟩
                    case measure => simp [intOf]
            · obtain rfl : i = cuts.length := by omega
              have hlt' : decide ((cuts.length : Int) < cuts.length) = false := by simp
              have hy : ∀ {j : Nat} {v : Value}, wd.cell? ⟨eb, j, none⟩ = some v → ∀ wx, Below (wd.heap.size + 1) (wd.alloc (.cells #[.float .f64 slope] 37)) wx → wx.cell? ⟨eb, j, none⟩ = some v := fun {j v} h wx hbx =>
                (hbx.cell (p := ⟨eb, j, none⟩) (by simp; omega)).trans ((World.grownBy_alloc wd _ none).cell h (by simp))
              have hys : ∀ wx, Below (wd.heap.size + 1) (wd.alloc (.cells #[.float .f64 slope] 37)) wx → wx.cell? ⟨wd.heap.size, 0, none⟩ = some (.float .f64 slope) := fun wx hbx =>
                (hbx.cell (p := ⟨wd.heap.size, 0, none⟩) (by simp)).trans (cell_of_row _ _ _ _ _ _ (heap_alloc_new wd _))
              have Y0 := Lib.hid (hy y0)
              have Y1 := Lib.hid (hy y1)
              have YS := Lib.hid hys
              clear hy hys y0 y1 y2 y3
              have hd := HD.out
              clear HD hown hbx hmf
              generalize hS : sortTo cuts.length cuts = S at hd hsr hll
              have hSn : S.length = cuts.length := hll
              generalize cuts.length = n at *
              go_wp2
              go_loopw [9, 25] (fun s9 s25 wx => TrapRel wd slope g cap n S (floatOfInt .f64 (one * x + one)) (floatOfInt .f64 one) sg a0 b0 s s9 s25 wx) (fun _ s25 _ => n - (intOf s25).toNat)
              case atStart =>
                refine ⟨1, sum, rfl, rfl, by omega, by omega, ?_, hsr⟩
                show trapL _ _ _ _ _ _ _ _ _ = _
                rw [← hd, List.drop_one]
                congr 1
                cases S <;> rfl
              case round =>
                clear hsr
                obtain ⟨i, sm, rfl, rfl, hi1, hin, HT, hown, hbx⟩ := hrel
                rw [hSn] at hown
                by_cases hlt : i < n
                · have hlt' : decide ((i : Int) < n) = true := by simp; omega
                  have c1 : wr.cell? ⟨g, i, none⟩ = some (.float .f64 (S.getD i 0)) := by
                    rw [hown.cellAt i (by omega)]
                    unfold fCells
                    rw [List.getElem?_map, List.getElem?_eq_getElem (by omega)]
                    simp [List.getD, List.getElem?_eq_getElem (show i < S.length by omega)]
                  have c0 : wr.cell? ⟨g, i - 1, none⟩ = some (.float .f64 (S.getD (i - 1) 0)) := by
                    rw [hown.cellAt (i - 1) (by omega)]
                    unfold fCells
                    rw [List.getElem?_map, List.getElem?_eq_getElem (by omega)]
                    simp [List.getD, List.getElem?_eq_getElem (show i - 1 < S.length by omega)]
                  have ht := HT.out
                  rw [List.drop_eq_getElem_cons (show i < S.length by omega)] at ht
                  have hgi : S[i]'(by omega) = S.getD i 0 := by simp [List.getD, List.getElem?_eq_getElem (show i < S.length by omega)]
                  rw [hgi] at ht
                  unfold trapL at ht
                  rw [Option.bind_eq_some_iff] at ht
                  obtain ⟨sm', hstep, ht⟩ := ht
                  generalize hP : S.getD (i - 1) 0 = prev at c0 hstep
                  have ht2 : trapL (floatOfInt .f64 (one * x + one)) (floatOfInt .f64 one) sg a0 b0 slope (S.getD (i + 1 - 1) 0) (S.drop (i + 1)) sm' = some s := by rw [Nat.add_sub_cancel]; exact ht
                  have HT2 := Lib.hid ht2
                  clear ht ht2 hgi hP HT
                  generalize S.getD i 0 = cur at c1 hstep
                  unfold trapStep sideAt at hstep
                  simp only [Option.bind_eq_some_iff] at hstep
                  obtain ⟨sa, ⟨aa, ha0, da, ha1, ma, ha2, ha3⟩, sb, ⟨ab', hb0, db, hb1, mb, hb2, hb3⟩, d, hd', e, he, ff, hff, gg, hgg, hh, hhh, hsum⟩ := hstep
                  unfold d2 at hhh
                  have r2 := rsub64 ha1
                  have r3 := rmax64 ha2
                  have r4 := rmin64 ha3
                  have r5 := rsub64 hb1
                  have r6 := rmax64 hb2
                  have r7 := rmin64 hb3
                  have r8 := rsub64 hd'
                  have r9 := rmul64 he
                  have r10 := radd64 hff
                  have r11 := rmul64 hgg
                  have r12 := rdiv64 hhh
                  have r13 := radd64 hsum
                  have K0 := Lib.hid ha0
                  have K1 := Lib.hid hb0
                  clear ha1 ha2 ha3 hb1 hb2 hb3 hd' he hff hgg hhh hsum ha0 hb0
                  have z0 := Y0.out wr hbx
                  have z1 := Y1.out wr hbx
                  have zs := YS.out wr hbx
                  have i1 : IntKind.i64.wrap ((i : Int) - 1) = ((i - 1 : Nat) : Int) := by rw [IntKind.wrap_i64]; omega
                  have i2 : (i : Int) - 1 = ((i - 1 : Nat) : Int) := by omega
                  go_wp2_with fail
                  refine (at30 eb wd.heap.size a0 b0 slope prev aa wr K0.out z0 z1 zs).mono ?_
                  rintro e w' ⟨rfl, rfl⟩
                  go_wp2_with fail
                  refine (at30 eb wd.heap.size a0 b0 slope cur ab' wr K1.out z0 z1 zs).mono ?_
                  rintro e w' ⟨rfl, rfl⟩
                  go_wp2_with fail
                  go_quiet (fail)
                  have hown2 : (wr.drewN nq).ownsRow (wd.heap.size + 1) 37 1 (.slice (some ⟨g, 0, none⟩) S.length cap) S.length (fCells S) := by rw [hSn]; exact hown
                  have hbx2 : Below (wd.heap.size + 1) (wd.alloc (.cells #[.float .f64 slope] 37)) (wr.drewN nq) := ⟨hbx.os, hbx.tape, hbx.output, hbx.size, hbx.block⟩
                  go_wp2
                  go_roundw
                  case rel => exact ⟨i + 1, sm', by go_num, rfl, by omega, by omega, HT2, hown2, hbx2⟩
                  case measure => simp [intOf]; omega
                · obtain rfl : i = n := by omega
                  have hlt' : decide ((i : Int) < i) = false := by simp
                  have ht := HT.out
                  rw [List.drop_eq_nil_of_le (by omega)] at ht
                  simp only [trapL, Option.some.injEq] at ht
                  subst ht
                  have hbw2 : Below w.heap.size w wr := (hbd.alloc hbd.size _).trans (hbx.mono (Nat.le_succ_of_le hbd.size))
                  go_wp2
                  refine ⟨area_mk _ (k + 1) sm (by kernel_rfl) rfl (by go_num) (by omega) HREST.out hbw2, ?_⟩
                  show l.length - (intOf _).toNat < _
                  simp [intOf]; omega
  · obtain rfl : k = l.length := by omega
    have hlt' : decide ((l.length : Int) < l.length) = false := by simp
    have hr := HR.out
    rw [List.drop_length] at hr
    simp only [areaSum, Option.some.injEq] at hr
    subst hr
    go_wp2
    exact areaQ_mk _ (by kernel_rfl) rfl hb

end Go.Proofs.Ytmgcbodlolnheaa
