/- What the walked functions compute, as plain Lean functions on the words of floating numbers; 'none' where an operation would have no number as its answer (or leaves the range that the walks speak of). -/
import Derived.Laws.FloatArith
namespace Go.Proofs.Ytmgcbodlolnheaa

def add32 (x y : Nat) : Option Nat := floatBits .add .f32 x y
def sub32 (x y : Nat) : Option Nat := floatBits .sub .f32 x y
def mul32 (x y : Nat) : Option Nat := floatBits .mul .f32 x y
def div32 (x y : Nat) : Option Nat := floatBits .quo .f32 x y
def add64 (x y : Nat) : Option Nat := floatBits .add .f64 x y
def sub64 (x y : Nat) : Option Nat := floatBits .sub .f64 x y
def mul64 (x y : Nat) : Option Nat := floatBits .mul .f64 x y
def div64 (x y : Nat) : Option Nat := floatBits .quo .f64 x y
def lt32 (x y : Nat) : Bool := FloatKind.f32.format.order x y == some .lt
def gt32 (x y : Nat) : Bool := FloatKind.f32.format.order x y == some .gt
def le32 (x y : Nat) : Bool := FloatKind.f32.format.order x y == some .lt || FloatKind.f32.format.order x y == some .eq
def ge32 (x y : Nat) : Bool := FloatKind.f32.format.order x y == some .gt || FloatKind.f32.format.order x y == some .eq
def lt64 (x y : Nat) : Bool := FloatKind.f64.format.order x y == some .lt
def gt64 (x y : Nat) : Bool := FloatKind.f64.format.order x y == some .gt
def le64 (x y : Nat) : Bool := FloatKind.f64.format.order x y == some .lt || FloatKind.f64.format.order x y == some .eq
def ge64 (x y : Nat) : Bool := FloatKind.f64.format.order x y == some .gt || FloatKind.f64.format.order x y == some .eq
def of32 (n : Int) : Nat := floatOfInt .f32 n
def of64 (n : Int) : Nat := floatOfInt .f64 n

def w1 : Nat := 1065353216        -- float32 1
def wm1 : Nat := 3212836864       -- -1
def wHalf : Nat := 1056964608     -- 0.5
def w15 : Nat := 1069547520       -- 1.5
def wEps : Nat := 897988541       -- 0.000001
def w333 : Nat := 1051361018      -- 0.333
def w64 : Nat := 1115684864       -- 64
def w256 : Nat := 1132462079      -- almost 256
def d1 : Nat := 4607182418800017408    -- float64 1
def dm1 : Nat := 13830554455654793216  -- -1
def d2 : Nat := 4611686018427387904    -- 2
def d3 : Nat := 4613937818241073152    -- 3
def d255 : Nat := 4643176031446892544  -- 255
def dFar : Nat := 4634204016564240384  -- 64

/-- A small whole number, or none. -/
def small (n : Int) : Option Int := if -1000000 ≤ n ∧ n ≤ 1000000 then some n else none

/-- A float64 made whole, as an int32. -/
def wholeI (way : Ieee.Toward) (x : Nat) : Option Int :=
  match floatToFloatBits .f32 x .f64 with
  | none => none
  | some y =>
    if (FloatKind.f64.decode y).isNaN then none else
    match floatToIntVal .f64 (FloatKind.f64.encode ((FloatKind.f64.decode y).integral way)) .i32 with
    | none => none
    | some n => small n
def floorI (x : Nat) : Option Int := wholeI .down x
def ceilI (x : Nat) : Option Int := wholeI .up x

def clampZ (i w : Int) : Int := if i < 0 then 0 else if i < w then i else w

def upd (b : Nat → Nat) (i v : Nat) : Nat → Nat := fun k => if k = i then v else b k

/-- 'if i := clamp(xi, width); i < uint(len(buf)) { buf[i] += v }', of a buffer of n numbers that begins at base. -/
def bump (n base W : Nat) (xi : Int) (v : Option Nat) (b : Nat → Nat) : Option (Nat → Nat) :=
  if clampZ xi W < (n : Int) - base then
    match v with
    | none => none
    | some v =>
      match add32 (b (base + (clampZ xi W).toNat)) v with
      | none => none
      | some r => some (upd b (base + (clampZ xi W).toNat) r)
  else some b

def midLoop (n base W v : Nat) : Nat → Int → (Nat → Nat) → Option (Nat → Nat)
  | 0, _, b => some b
  | c + 1, xi, b => (bump n base W xi (some v) b).bind fun b' => midLoop n base W v c (xi + 1) b'

def subMul (d m : Nat) : Option Nat := (mul32 d m).bind fun e => sub32 d e
def mulSub (d a b : Nat) : Option Nat := (sub32 a b).bind fun e => mul32 d e
def mulSub2 (d a b : Nat) : Option Nat := (sub32 w1 a).bind fun e => (sub32 e b).bind fun g => mul32 d g

/-- An edge's row between two near columns. -/
def rowNear (n base W : Nat) (x0i : Int) (d x xN : Nat) (b : Nat → Nat) : Option (Nat → Nat) :=
  (add32 x xN).bind fun s => (mul32 wHalf s).bind fun h => (sub32 h (of32 x0i)).bind fun m =>
  (bump n base W x0i (subMul d m) b).bind fun b1 =>
  bump n base W (x0i + 1) (mul32 d m) b1

/-- An edge's row over several columns. -/
def rowFar (n base W : Nat) (x0i x1i : Int) (d x0 x1 : Nat) (b : Nat → Nat) : Option (Nat → Nat) :=
  (sub32 x1 x0).bind fun g => (div32 w1 g).bind fun s =>
  (sub32 x0 (of32 x0i)).bind fun x0f => (sub32 w1 x0f).bind fun o =>
  (mul32 wHalf s).bind fun hs => (mul32 hs o).bind fun ho => (mul32 ho o).bind fun a0 =>
  (sub32 x1 (of32 x1i)).bind fun e => (add32 e w1).bind fun x1f =>
  (mul32 hs x1f).bind fun hf => (mul32 hf x1f).bind fun am =>
  (bump n base W x0i (mul32 d a0) b).bind fun b1 =>
  (if x1i = x0i + 2 then bump n base W (x0i + 1) (mulSub2 d a0 am) b1
   else
    (sub32 w15 x0f).bind fun q => (mul32 s q).bind fun a1 =>
    (bump n base W (x0i + 1) (mulSub d a1 a0) b1).bind fun b2 =>
    (mul32 d s).bind fun ds =>
    (midLoop n base W ds (x1i - 1 - (x0i + 2)).toNat (x0i + 2) b2).bind fun b3 =>
    (mul32 s (of32 (x1i - x0i - 3))).bind fun k => (add32 a1 k).bind fun a2 =>
    bump n base W (x1i - 1) (mulSub2 d a2 am) b3).bind fun b4 =>
  bump n base W x1i (mul32 d am) b4

/-- One row of an edge. -/
def rowWrite (n base W : Nat) (d x xN : Nat) (b : Nat → Nat) : Option (Nat → Nat) :=
  let x0 := if gt32 x xN then xN else x
  let x1 := if gt32 x xN then x else xN
  (floorI x0).bind fun x0i => (ceilI x1).bind fun x1i =>
  if x1i ≤ x0i + 1 then rowNear n base W x0i d x xN b else rowFar n base W x0i x1i d x0 x1 b

/-- How high an edge is within a row. -/
def rowDy (ay bY : Nat) (y : Int) : Option Nat :=
  sub32 (if lt32 (of32 (y + 1)) bY then of32 (y + 1) else bY) (if gt32 (of32 y) ay then of32 y else ay)

/-- The rows of an edge, from y on. -/
def rows (n W : Nat) (ay bY dir m : Nat) : Nat → Int → Nat → (Nat → Nat) → Option (Nat → Nat)
  | 0, _, _, b => some b
  | c + 1, y, x, b =>
    (rowDy ay bY y).bind fun dy => (mul32 dy m).bind fun p => (add32 x p).bind fun xN =>
    if y < 0 then rows n W ay bY dir m c (y + 1) xN b
    else (mul32 dy dir).bind fun d => (rowWrite n (y.toNat * W) W d x xN b).bind fun b' =>
      rows n W ay bY dir m c (y + 1) xN b'

/-- An edge that goes down. -/
def lineDown (W H : Nat) (dir ax ay bx bY : Nat) (b : Nat → Nat) : Option (Nat → Nat) :=
  (sub32 bY ay).bind fun e =>
  if le32 e wEps then some b else
  (sub32 bx ax).bind fun g => (div32 g e).bind fun m =>
  (floorI ay).bind fun y => (ceilI bY).bind fun yM =>
  rows (W * H) W ay bY dir m ((if yM > H then (H : Int) else yM) - y).toNat y ax b

/-- floatingLineTo, the pen at (ax, ay). -/
def lineTo (W H : Nat) (ax ay bx bY : Nat) (b : Nat → Nat) : Option (Nat → Nat) :=
  if gt32 ay bY then lineDown W H wm1 bx bY ax ay b else lineDown W H w1 ax ay bx bY b

def lerp1 (t p q : Nat) : Option Nat := (sub32 q p).bind fun e => (mul32 t e).bind fun g => add32 p g

/-- A point of the curve, one coordinate. -/
def bezier (t a b c : Nat) : Option Nat := (lerp1 t a b).bind fun p => (lerp1 t b c).bind fun q => lerp1 t p q

/-- The lines of a curve but for the last; what is left: the pen and the buffer. -/
def quadLoop (W H : Nat) (ax ay bx bY cx cy nInv : Nat) : Nat → Nat → Nat → Nat → (Nat → Nat) → Option (Nat × Nat × (Nat → Nat))
  | 0, _, px, py, b => some (px, py, b)
  | k + 1, t, px, py, b =>
    (add32 t nInv).bind fun t' => (bezier t' ax bx cx).bind fun qx => (bezier t' ay bY cy).bind fun qy =>
    (lineTo W H px py qx qy b).bind fun b' => quadLoop W H ax ay bx bY cx cy nInv k t' qx qy b'

/-- devSquared's parts. -/
def dev (a b c : Nat) : Option Nat := (mul32 1073741824 b).bind fun e => (sub32 a e).bind fun g => add32 g c
def devSq (ax ay bx bY cx cy : Nat) : Option Nat :=
  (dev ax bx cx).bind fun x => (dev ay bY cy).bind fun y => (mul32 x x).bind fun xx => (mul32 y y).bind fun yy => add32 xx yy

def sqrt64 (x : Nat) : Option Nat := FloatKind.f64.format.sqrt x

/-- In how many lines a curve is drawn. -/
def segments (dq : Nat) : Option Int :=
  (floatToFloatBits .f32 dq .f64).bind fun e => (mul64 d3 e).bind fun g => (sqrt64 g).bind fun r => (sqrt64 r).bind fun q =>
  (floatToIntVal .f64 q .i64).bind fun k => if 0 ≤ k ∧ k ≤ 1000 then some (1 + k) else none

/-- QuadTo, the pen at (ax, ay). -/
def quadTo (W H : Nat) (ax ay bx bY cx cy : Nat) (b : Nat → Nat) : Option (Nat → Nat) :=
  (devSq ax ay bx bY cx cy).bind fun dq =>
  if ge32 dq w333 then
    (segments dq).bind fun n => (div32 w1 (of32 n)).bind fun nInv =>
    (quadLoop W H ax ay bx bY cx cy nInv (n - 1).toNat 0 ax ay b).bind fun r =>
    lineTo W H r.1 r.2.1 cx cy r.2.2
  else lineTo W H ax ay cx cy b

/-- A coordinate in 64ths of a pixel. -/
def coord (n : Int) : Option Nat := div32 (of32 n) w64

def neg32 (x : Nat) : Nat := Op.negFloat .f32 x
def neg64 (x : Nat) : Nat := Op.negFloat .f64 x

/-- What a pixel's sum is as a byte. -/
def byteOf (a : Nat) : Option Int :=
  let v := if lt32 a 0 then neg32 a else a
  let v := if gt32 v w1 then w1 else v
  (mul32 w256 v).bind fun e => floatToIntVal .f32 e .u8

/-- floatingAccumulateOpSrc: c bytes from place k on, with the sum a so far. -/
def accum (b : Nat → Nat) : Nat → Nat → Nat → Option (List Int)
  | 0, _, _ => some []
  | c + 1, k, a => (add32 a (b k)).bind fun a' => (byteOf a').bind fun u => (accum b c (k + 1) a').bind fun l => some (u :: l)

/-- The mask of the path: a curve through three points, and a line back. -/
def maskP (W H : Nat) (p : List (Int × Int)) : Option (List Int) :=
  match p with
  | [p0, p1, p2] =>
    (coord p0.1).bind fun ax => (coord p0.2).bind fun ay => (coord p1.1).bind fun bx => (coord p1.2).bind fun bY =>
    (coord p2.1).bind fun cx => (coord p2.2).bind fun cy =>
    (quadTo W H ax ay bx bY cx cy (fun _ => 0)).bind fun b1 => (lineTo W H cx cy ax ay b1).bind fun b2 => accum b2 (W * H) 0 0
  | _ => none

/- The reference. -/

def max64 (x y : Nat) : Option Nat :=
  match FloatKind.f64.format.order x y with
  | none => none
  | some .lt => some y
  | some .gt => some x
  | some .eq => some (if (FloatKind.f64.decode x).neg then y else x)
def min64 (x y : Nat) : Option Nat :=
  match FloatKind.f64.format.order x y with
  | none => none
  | some .lt => some x
  | some .gt => some y
  | some .eq => some (if (FloatKind.f64.decode x).neg then x else y)

def imax (x y : Int) : Int := if y > x then y else x
def imin (x y : Int) : Int := if y < x then y else x

structure Edge where
  x0 : Int
  y0 : Int
  x1 : Int
  y1 : Int

def atP (x0 y0 : Int) (slope y : Nat) : Option Nat := (sub64 y (of64 y0)).bind fun t => (mul64 slope t).bind fun p => add64 (of64 x0) p

def sideAt (right side : Nat) (x0 y0 : Int) (slope y : Nat) : Option Nat :=
  (atP x0 y0 slope y).bind fun a => (sub64 right a).bind fun d => (max64 d 0).bind fun m => min64 m side

def trapStep (right side sign : Nat) (x0 y0 : Int) (slope prev cur sum : Nat) : Option Nat :=
  (sideAt right side x0 y0 slope prev).bind fun a => (sideAt right side x0 y0 slope cur).bind fun b =>
  (sub64 cur prev).bind fun d => (mul64 sign d).bind fun e => (add64 a b).bind fun f => (mul64 e f).bind fun g => (div64 g d2).bind fun h => add64 sum h

def trapL (right side sign : Nat) (x0 y0 : Int) (slope : Nat) : Nat → List Nat → Nat → Option Nat
  | _, [], sum => some sum
  | prev, cur :: rest, sum => (trapStep right side sign x0 y0 slope prev cur sum).bind fun s => trapL right side sign x0 y0 slope cur rest s

def sink : Nat → List Nat → List Nat
  | 0, l => l
  | k + 1, l => if lt64 (l.getD (k + 1) 0) (l.getD k 0) then sink k ((l.set (k + 1) (l.getD k 0)).set k (l.getD (k + 1) 0)) else l

def sortTo : Nat → List Nat → List Nat
  | 0, l => l
  | k + 1, l => sink k (sortTo k l)

def cutAdd (x0 y0 : Int) (slope top bottom : Nat) (e : Int) (cuts : List Nat) : Option (List Nat) :=
  (div64 (of64 (e - x0)) slope).bind fun q => (add64 (of64 y0) q).bind fun c =>
  some (if gt64 c top && lt64 c bottom then cuts ++ [c] else cuts)

def cutsOf (x0 y0 x1 : Int) (slope top bottom : Nat) (x one : Int) : Option (List Nat) :=
  if x0 = x1 then some [top, bottom]
  else (cutAdd x0 y0 slope top bottom (one * x) [top, bottom]).bind fun c => cutAdd x0 y0 slope top bottom (one * x + one) c

/-- An edge that goes down (or is turned so): what it adds to a pixel's sum. -/
def areaDown (sign : Nat) (x0 y0 x1 y1 x y one : Int) (sum : Nat) : Option Nat :=
  let top := of64 (imax y0 (one * y))
  let bottom := of64 (imin y1 (one * y + one))
  if ge64 top bottom then some sum else
  (div64 (of64 (x1 - x0)) (of64 (y1 - y0))).bind fun slope =>
  (cutsOf x0 y0 x1 slope top bottom x one).bind fun cuts =>
  trapL (of64 (one * x + one)) (of64 one) sign x0 y0 slope ((sortTo cuts.length cuts).headD 0) (sortTo cuts.length cuts).tail sum

def areaEdge (e : Edge) (x y one : Int) (sum : Nat) : Option Nat :=
  if e.y1 < e.y0 then areaDown dm1 e.x1 e.y1 e.x0 e.y0 x y one sum else areaDown d1 e.x0 e.y0 e.x1 e.y1 x y one sum

def areaSum (x y one : Int) : List Edge → Nat → Option Nat
  | [], sum => some sum
  | e :: rest, sum => (areaEdge e x y one sum).bind fun s => areaSum x y one rest s

def areaP (edges : List Edge) (x y one : Int) : Option Nat := (areaSum x y one edges 0).bind fun s => div64 s (of64 (one * one))

def nearB (b : Int) (area far : Nat) : Option Bool :=
  (max64 area (neg64 area)).bind fun m => (min64 m d1).bind fun m1 => (mul64 d255 m1).bind fun p => (sub64 p (of64 b)).bind fun d =>
  (max64 d (neg64 d)).bind fun e => some (le64 e far)

/-- The points of the curve, in 64^2 times smaller parts. -/
def curvePt (a b c : Int) (k : Nat) : Int := a * (64 - k) * (64 - k) + 2 * b * k * (64 - k) + c * k * k
def curveP (p : List (Int × Int)) : List (Int × Int) :=
  match p with
  | [p0, p1, p2] => (List.range 65).map fun k => (curvePt p0.1 p1.1 p2.1 k, curvePt p0.2 p1.2 p2.2 k)
  | _ => []
def polygonP (l : List (Int × Int)) : List Edge :=
  (List.range l.length).map fun i => ⟨(l.getD i (0, 0)).1, (l.getD i (0, 0)).2, (l.getD ((i + 1) % l.length) (0, 0)).1, (l.getD ((i + 1) % l.length) (0, 0)).2⟩

end Go.Proofs.Ytmgcbodlolnheaa
