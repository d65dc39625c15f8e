/- Go's max and min of two float64 words. 'spec.Near': contract. 'spec.Area's closure: the height's place on an edge. 'spec.Area' in words of float64: what it computes, and when each step has an answer. 'spec.Area' is the area, but for very little: float64 as numbers. 'spec.Near' in -/
import Derived.Test.YtmgcbodlolnheaaZ05
import Derived.Test.YtmgcbodlolnheaaZ07
import Derived.Test.YtmgcbodlolnheaaZ08
namespace Go.Proofs.Ytmgcbodlolnheaa
open Flt
open Go.ChangeShapes Go.WideShapes Go.ChangeAt Go.RowKit
set_option linter.unusedVariables false
def Cmp64 (x y : Nat) : Prop := (FloatKind.f64.format.order x y).isSome = true
def fmax64 (x y : Nat) : Nat := match FloatKind.f64.format.order x y with
 | some .lt => y
 | some .gt => x
 | _ => if (FloatKind.f64.decode x).neg then y else x
def fmin64 (x y : Nat) : Nat := match FloatKind.f64.format.order x y with
 | some .lt => x
 | some .gt => y
 | _ => if (FloatKind.f64.decode x).neg then x else y
@[go_sem ↓] theorem run_max64 {P : Program} {w : World} (ts : Array TypeId) (t : TypeId) (x y : Nat) (h : Cmp64 x y) : (Builtin.max_ ts t #[.float .f64 x, .float .f64 y]).run P w = .ok (.float .f64 (fmax64 x y)) w := by
 unfold Cmp64 at h
 unfold fmax64
 cases ho : FloatKind.f64.format.order x y with
 | none => rw [ho] at h; cases h
 | some o => cases o <;> simp [Builtin.max_, Builtin.max2, ho]
@[go_sem ↓] theorem run_min64 {P : Program} {w : World} (ts : Array TypeId) (t : TypeId) (x y : Nat) (h : Cmp64 x y) : (Builtin.min_ ts t #[.float .f64 x, .float .f64 y]).run P w = .ok (.float .f64 (fmin64 x y)) w := by
 unfold Cmp64 at h
 unfold fmin64
 cases ho : FloatKind.f64.format.order x y with
 | none => rw [ho] at h; cases h
 | some o => cases o <;> simp [Builtin.min_, Builtin.min2, ho]
theorem order64 {x y : Nat} (hx : F64 x) (hy : F64 y) : FloatKind.f64.format.order x y = some (if VV x < VV y then .lt else if VV x = VV y then .eq else .gt) := order_val (f := Ieee.double) hx hy
theorem cmp64 {x y : Nat} (hx : F64 x) (hy : F64 y) : Cmp64 x y := by unfold Cmp64; rw [order64 hx hy]; rfl
theorem fmax64_val {x y : Nat} (hx : F64 x) (hy : F64 y) : F64 (fmax64 x y) /\ VV (fmax64 x y) = (if VV x < VV y then VV y else VV x) := by
 unfold fmax64
 rw [order64 hx hy]
 by_cases h1 : VV x < VV y
 ·simp only [if_pos h1]; exact ⟨hy, trivial⟩
 ·by_cases h2 : VV x = VV y
  ·simp only [if_neg h1, if_pos h2]
   split
   ·exact ⟨hy, h2.symm⟩
   ·exact ⟨hx, rfl⟩
  ·simp only [if_neg h1, if_neg h2]; exact ⟨hx, trivial⟩
theorem fmin64_val {x y : Nat} (hx : F64 x) (hy : F64 y) : F64 (fmin64 x y) /\ VV (fmin64 x y) = (if VV y < VV x then VV y else VV x) := by
 unfold fmin64
 rw [order64 hx hy]
 by_cases h1 : VV x < VV y
 ·have h3 : ¬ VV y < VV x := by grind
  simp only [if_pos h1, if_neg h3]; exact ⟨hx, trivial⟩
 ·by_cases h2 : VV x = VV y
  ·have h3 : ¬ VV y < VV x := by grind
   simp only [if_neg h1, if_pos h2, if_neg h3]
   split
   ·exact ⟨hx, rfl⟩
   ·exact ⟨hy, h2.symm⟩
  ·have h3 : VV y < VV x := by grind
   simp only [if_neg h1, if_neg h2, if_pos h3]; exact ⟨hy, trivial⟩
def fneg64 (x : Nat) : Nat := Op.negFloat .f64 x
@[go_sem ↓] theorem run_neg64 {P : Program} {w : World} (x : Nat) : (Op.unary .neg (.float .f64 x)).run P w = .ok (.float .f64 (fneg64 x)) w := by
 simp [Op.unary, fneg64]
def closeD (b : Int) (area : Nat) : Nat := fop64 .sub (fop64 .mul 4643176031446892544 (fmin64 (fmax64 area (fneg64 area)) 4607182418800017408)) (floatOfInt .f64 b)
def closeB (b : Int) (area far : Nat) : Bool := FloatKind.f64.format.order (fmax64 (closeD b area) (fneg64 (closeD b area))) far == some .lt || FloatKind.f64.format.order (fmax64 (closeD b area) (fneg64 (closeD b area))) far == some .eq
structure CloseOk (b : Int) (area far : Nat) : Prop where
 c1 : Cmp64 area (fneg64 area)
 c2 : Cmp64 (fmax64 area (fneg64 area)) 4607182418800017408
 o1 : Fok64 .mul 4643176031446892544 (fmin64 (fmax64 area (fneg64 area)) 4607182418800017408)
 o2 : Fok64 .sub (fop64 .mul 4643176031446892544 (fmin64 (fmax64 area (fneg64 area)) 4607182418800017408)) (floatOfInt .f64 b)
 c3 : Cmp64 (closeD b area) (fneg64 (closeD b area))
set_option maxRecDepth 100000 in
theorem near_any (b : Int) (area far : Nat) (w : World) (h : CloseOk b area far) :
  Calls Try.prog 45 #[.int .u8 b, .float .f64 area, .float .f64 far] w fun e w' => e = .returned (.bool (closeB b area far)) /\ w = w' := by
 obtain ⟨c1, c2, o1, o2, c3⟩ := h
 unfold closeD at c3
 go_enter Try.func45, Try.ntmps45
 go_wp2_with fail
 go_ret
 exact ⟨rfl, rfl⟩
def areaAt (x0 y0 : Int) (slope y : Nat) : Nat := fop64 .add (floatOfInt .f64 x0) (fop64 .mul slope (fop64 .sub y (floatOfInt .f64 y0)))
structure AreaAtOk (x0 y0 : Int) (slope y : Nat) : Prop where
 o1 : Fok64 .sub y (floatOfInt .f64 y0)
 o2 : Fok64 .mul slope (fop64 .sub y (floatOfInt .f64 y0))
 o3 : Fok64 .add (floatOfInt .f64 x0) (fop64 .mul slope (fop64 .sub y (floatOfInt .f64 y0)))
set_option maxRecDepth 100000 in
theorem areaAt_any (x0 y0 : Int) (slope y e s : Nat) (w : World) (h : AreaAtOk x0 y0 slope y) (h0 : w.cell? ⟨e, 0, none⟩ = some (.int .i64 x0)) (h1 : w.cell? ⟨e, 1, none⟩ = some (.int .i64 y0)) (h2 : w.cell? ⟨s, 0, none⟩ = some (.float .f64 slope)) :
  Calls Try.prog 57 #[.float .f64 y, .pointer (some ⟨e, 0, none⟩), .pointer (some ⟨s, 0, none⟩)] w fun en w' => en = .returned (.float .f64 (areaAt x0 y0 slope y)) /\ w = w' := by
 obtain ⟨o1, o2, o3⟩ := h
 go_enter Try.func57, Try.ntmps57
 go_wp2_with fail
 go_ret
 exact ⟨rfl, rfl⟩
def flt64 (a b : Nat) : Bool := FloatKind.f64.format.order a b == some .lt
def fgt64 (a b : Nat) : Bool := FloatKind.f64.format.order a b == some .gt
def fge64 (a b : Nat) : Bool := FloatKind.f64.format.order a b == some .gt || FloatKind.f64.format.order a b == some .eq
theorem fge64_false {a b : Nat} (h : fge64 a b = false) : (FloatKind.f64.format.order a b == some Ordering.gt) = false /\ (FloatKind.f64.format.order a b == some Ordering.eq) = false := by
 unfold fge64 at h
 simpa using h
theorem fge64_true {a b : Nat} (h : fge64 a b = true) : (FloatKind.f64.format.order a b == some Ordering.gt) = true ∨ ((FloatKind.f64.format.order a b == some Ordering.gt) = false /\ (FloatKind.f64.format.order a b == some Ordering.eq) = true) := by
 unfold fge64 at h
 cases h1 : (FloatKind.f64.format.order a b == some Ordering.gt)
 ·rw [h1] at h
  exact .inr ⟨rfl, by simpa using h⟩
 ·exact .inl rfl
def swapAt (l : List Nat) (k : Nat) : List Nat := (l.set k (l.getD (k - 1) 0)).set (k - 1) (l.getD k 0)
def sink : Nat -> List Nat -> List Nat
 | 0, l => l
 | k + 1, l => if flt64 (l.getD (k + 1) 0) (l.getD k 0) = true then sink k (swapAt l (k + 1)) else l
def sortTo : Nat -> List Nat -> List Nat
 | 0, l => l
 | i + 1, l => sink i (sortTo i l)
structure EC where
 x0 : Int
 y0 : Int
 slope : Nat
 sg : Nat
 right : Nat
 side : Nat
def EC.reach (c : EC) (p : Nat) : Nat := fmin64 (fmax64 (fop64 .sub c.right (areaAt c.x0 c.y0 c.slope p)) 0) c.side
def EC.piece (c : EC) (p q : Nat) : Nat := fop64 .quo (fop64 .mul (fop64 .mul c.sg (fop64 .sub q p)) (fop64 .add (c.reach p) (c.reach q))) 4611686018427387904
def EC.sum (c : EC) (cs : List Nat) (s : Nat) : Nat -> Nat
 | 0 => s
 | i + 1 => fop64 .add (c.sum cs s i) (c.piece (cs.getD i 0) (cs.getD (i + 1) 0))
structure EC.ReachOk (c : EC) (p : Nat) : Prop where
 at_ : AreaAtOk c.x0 c.y0 c.slope p
 o1 : Fok64 .sub c.right (areaAt c.x0 c.y0 c.slope p)
 c1 : Cmp64 (fop64 .sub c.right (areaAt c.x0 c.y0 c.slope p)) 0
 c2 : Cmp64 (fmax64 (fop64 .sub c.right (areaAt c.x0 c.y0 c.slope p)) 0) c.side
structure EC.PieceOk (c : EC) (p q s : Nat) : Prop where
 rp : c.ReachOk p
 rq : c.ReachOk q
 o1 : Fok64 .sub q p
 o2 : Fok64 .mul c.sg (fop64 .sub q p)
 o3 : Fok64 .add (c.reach p) (c.reach q)
 o4 : Fok64 .mul (fop64 .mul c.sg (fop64 .sub q p)) (fop64 .add (c.reach p) (c.reach q))
 o5 : Fok64 .quo (fop64 .mul (fop64 .mul c.sg (fop64 .sub q p)) (fop64 .add (c.reach p) (c.reach q))) 4611686018427387904
 o6 : Fok64 .add s (c.piece p q)
def cutW (x0 y0 z : Int) (slope : Nat) : Nat := fop64 .add (floatOfInt .f64 y0) (fop64 .quo (floatOfInt .f64 (z - x0)) slope)
structure CutOk (x0 y0 z : Int) (slope : Nat) : Prop where
 o1 : Fok64 .quo (floatOfInt .f64 (z - x0)) slope
 o2 : Fok64 .add (floatOfInt .f64 y0) (fop64 .quo (floatOfInt .f64 (z - x0)) slope)
def addCut (top bot c : Nat) (cs : List Nat) : List Nat := if fgt64 c top = true /\ flt64 c bot = true then cs ++ [c] else cs
abbrev slope64 (x0 y0 x1 y1 : Int) : Nat := fop64 .quo (floatOfInt .f64 (x1 - x0)) (floatOfInt .f64 (y1 - y0))
abbrev top64 (y0 Y : Int) : Nat := floatOfInt .f64 (imax y0 (64 * Y))
abbrev bot64 (y1 Y : Int) : Nat := floatOfInt .f64 (imin y1 (64 * Y + 64))
def cuts64 (x0 y0 x1 y1 X Y : Int) : List Nat :=
 if x0 = x1 then [top64 y0 Y, bot64 y1 Y]
 else addCut (top64 y0 Y) (bot64 y1 Y) (cutW x0 y0 (64 * X + 64) (slope64 x0 y0 x1 y1)) (addCut (top64 y0 Y) (bot64 y1 Y) (cutW x0 y0 (64 * X) (slope64 x0 y0 x1 y1)) [top64 y0 Y, bot64 y1 Y])
def ec64 (sg : Nat) (x0 y0 x1 y1 X : Int) : EC := ⟨x0, y0, slope64 x0 y0 x1 y1, sg, floatOfInt .f64 (64 * X + 64), floatOfInt .f64 64⟩
def downW (sg : Nat) (x0 y0 x1 y1 X Y : Int) (s : Nat) : Nat :=
 if fge64 (top64 y0 Y) (bot64 y1 Y) = true then s
 else (ec64 sg x0 y0 x1 y1 X).sum (sortTo (cuts64 x0 y0 x1 y1 X Y).length (cuts64 x0 y0 x1 y1 X Y)) s ((cuts64 x0 y0 x1 y1 X Y).length - 1)
def edgeW (e : Edge) (X Y : Int) (s : Nat) : Nat :=
 if e.2.2 < e.1.2 then downW 13830554455654793216 e.2.1 e.2.2 e.1.1 e.1.2 X Y s else downW 4607182418800017408 e.1.1 e.1.2 e.2.1 e.2.2 X Y s
structure DownOk (sg : Nat) (x0 y0 x1 y1 X Y : Int) (s : Nat) : Prop where
 sl : Fok64 .quo (floatOfInt .f64 (x1 - x0)) (floatOfInt .f64 (y1 - y0))
 c0 : x0 ≠ x1 -> CutOk x0 y0 (64 * X) (slope64 x0 y0 x1 y1)
 c1 : x0 ≠ x1 -> CutOk x0 y0 (64 * X + 64) (slope64 x0 y0 x1 y1)
 pieces : ∀ i, i + 1 < (cuts64 x0 y0 x1 y1 X Y).length ->
  (ec64 sg x0 y0 x1 y1 X).PieceOk ((sortTo (cuts64 x0 y0 x1 y1 X Y).length (cuts64 x0 y0 x1 y1 X Y)).getD i 0) ((sortTo (cuts64 x0 y0 x1 y1 X Y).length (cuts64 x0 y0 x1 y1 X Y)).getD (i + 1) 0)
   ((ec64 sg x0 y0 x1 y1 X).sum (sortTo (cuts64 x0 y0 x1 y1 X Y).length (cuts64 x0 y0 x1 y1 X Y)) s i)
def EdgeWOk (e : Edge) (X Y : Int) (s : Nat) : Prop :=
 (e.2.2 < e.1.2 -> fge64 (top64 e.2.2 Y) (bot64 e.1.2 Y) = false -> DownOk 13830554455654793216 e.2.1 e.2.2 e.1.1 e.1.2 X Y s) /\
 (¬ e.2.2 < e.1.2 -> fge64 (top64 e.1.2 Y) (bot64 e.2.2 Y) = false -> DownOk 4607182418800017408 e.1.1 e.1.2 e.2.1 e.2.2 X Y s)
def areaSum : List Edge -> Int -> Int -> Nat -> Nat
 | [], _, _, s => s
 | e :: t, X, Y, s => areaSum t X Y (edgeW e X Y s)
theorem areaSum_snoc : ∀ (l : List Edge) (e : Edge) (X Y : Int) (s : Nat), areaSum (l ++ [e]) X Y s = edgeW e X Y (areaSum l X Y s)
 | [], _, _, _, _ => rfl
 | a :: t, e, X, Y, s => by rw [List.cons_append, areaSum, areaSum_snoc t, areaSum]
def areaW (es : List Edge) (X Y : Int) : Nat := fop64 .quo (areaSum es X Y 0) (floatOfInt .f64 4096)
structure AreaOk (es : List Edge) (X Y : Int) : Prop where
 edges : ∀ k, (h : k < es.length) -> EdgeWOk es[k] X Y (areaSum (es.take k) X Y 0)
 o1 : Fok64 .quo (areaSum es X Y 0) (floatOfInt .f64 4096)
end Go.Proofs.Ytmgcbodlolnheaa
namespace Go.Proofs.Ytmgcbodlolnheaa
open Flt
set_option linter.unusedVariables false
theorem least_double : Ieee.double.leastPlace = -1074 := by decide
theorem binade_double : Ieee.double.binade = 4503599627370496 := by decide
theorem p2_m53 : p2 (-53) = 1 / 9007199254740992 := by
 have h := p2_neg 53
 have e : p2 (-53) = p2 (-((53 : Nat) : Int)) := rfl
 rw [e]
 push_cast at h
 grind
theorem R64.rel {x : Rat} {r : Nat} (h : R64 x r) : VV r <= x + ab x * p2 (-53) + p2 (-1075) /\ x <= VV r + ab x * p2 (-53) + p2 (-1075) := by
 obtain ⟨L, k, l1, l2, l3, l4, l5, l6⟩ := Rounds.err h
 rw [least_double] at l1 l4
 rw [binade_double] at l4
 have hL : p2 L <= 2 * (ab x * p2 (-53) + p2 (-1075)) := by
  have ha := ab_nonneg x
  have hp := p2_pos (-53)
  have hq := p2_pos (-1075)
  have hm := Rat.mul_nonneg ha (Rat.le_of_lt hp)
  rcases l4 with h4 | h4
  ·subst h4
   have : p2 (-1074) = 2 * p2 (-1075) := by rw [<- p2_succ]; rfl
   grind
  ·have h5 := Rat.mul_le_mul_of_nonneg_right h4 (Rat.le_of_lt hp)
   have h6 : ((4503599627370496 : Nat) : Rat) * p2 L * p2 (-53) = p2 L / 2 := by
    have e1 : ((4503599627370496 : Nat) : Rat) = p2 52 := by rw [show (52 : Int) = ((52 : Nat) : Int) by rfl, p2_nat]
    have e2 : p2 52 * p2 (-53) = p2 (-1) := by rw [<- p2_add]; rfl
    have e3 : p2 (-1) = 1 / 2 := by
     have : p2 (-1) * 2 = 1 := by rw [<- p2_one, <- p2_add]; exact p2_zero
     grind
    rw [e1]
    grind
   grind
 have hV : VV r = fval Ieee.double r := rfl
 rw [hV]
 constructor <;> grind
theorem p2_m1075 : p2 (-1075) <= 1 / 1000000000000000000000000000000 := Rat.le_trans (p2_mono (by decide)) p2_m150.1
theorem R64.near {x : Rat} {r : Nat} (h : R64 x r) : VV r <= x + ab x / 9007199254740992 + 1 / 1000000000000000000000000000000 /\ x <= VV r + ab x / 9007199254740992 + 1 / 1000000000000000000000000000000 := by
 obtain ⟨h1, h2⟩ := h.rel
 have h3 := p2_m1075
 rw [p2_m53] at h1 h2
 constructor <;> grind
theorem big1021 {x : Rat} (h : x <= 1000000000000000000000000000000) : x <= p2 1021 := Rat.le_trans h (Rat.le_trans p2_100 (p2_mono (by decide)))
theorem big1022 {x : Rat} (h : x <= 1000000000000000000000000000000) : x <= p2 1022 := Rat.le_trans h (Rat.le_trans p2_100 (p2_mono (by decide)))
theorem int64w {n : Int} (h1 : -4503599627370496 <= n) (h2 : n <= 4503599627370496) : F64 (floatOfInt .f64 n) /\ VV (floatOfInt .f64 n) = n := by
 have hb : ab (n : Rat) <= p2 1022 := by
  refine big1022 ?_
  have := ab_int_le (n := n) (b := 4503599627370496) (by omega) (by omega)
  push_cast at this
  grind
 have h := ofInt64_ok n hb
 refine ⟨h.fin, ?_⟩
 refine Rounds.exact h (rep_int (by decide) ?_ ?_) <;> rw [binade_double] <;> omega
theorem R64.near2 {x : Rat} {r : Nat} (h : R64 x r) {M : Rat} (hx : ab x <= M) : ab (VV r - x) <= M / 9007199254740992 + 1 / 1000000000000000000000000000000 := by
 obtain ⟨h1, h2⟩ := h.near
 refine ab_le ?_ ?_ <;> grind
theorem add64 {a b : Nat} (ha : F64 a) (hb : F64 b) {M : Rat} (hM : ab (VV a + VV b) <= M) (hM2 : M <= 1000000000000000000000000000000) : Fok64 .add a b /\ F64 (fop64 .add a b) /\ ab (VV (fop64 .add a b) - (VV a + VV b)) <= M / 9007199254740992 + 1 / 1000000000000000000000000000000 := by
 obtain ⟨h1, h2⟩ := fadd64_ok ha hb (big1022 (Rat.le_trans hM hM2))
 exact ⟨h1, h2.fin, h2.near2 hM⟩
theorem sub64 {a b : Nat} (ha : F64 a) (hb : F64 b) {M : Rat} (hM : ab (VV a - VV b) <= M) (hM2 : M <= 1000000000000000000000000000000) : Fok64 .sub a b /\ F64 (fop64 .sub a b) /\ ab (VV (fop64 .sub a b) - (VV a - VV b)) <= M / 9007199254740992 + 1 / 1000000000000000000000000000000 := by
 obtain ⟨h1, h2⟩ := fsub64_ok ha hb (big1022 (Rat.le_trans hM hM2))
 exact ⟨h1, h2.fin, h2.near2 hM⟩
theorem mul64 {a b : Nat} (ha : F64 a) (hb : F64 b) {M : Rat} (hM : ab (VV a * VV b) <= M) (hM2 : M <= 1000000000000000000000000000000) : Fok64 .mul a b /\ F64 (fop64 .mul a b) /\ ab (VV (fop64 .mul a b) - VV a * VV b) <= M / 9007199254740992 + 1 / 1000000000000000000000000000000 := by
 obtain ⟨h1, h2⟩ := fmul64_ok ha hb (big1022 (Rat.le_trans hM hM2))
 exact ⟨h1, h2.fin, h2.near2 hM⟩
theorem read_VV {a : Nat} {s : Bool} {m : Nat} {e : Int} (h : Ieee.double.read a = .number s m e) : F64 a /\ VV a = sgn s * m * p2 e :=
 ⟨⟨s, m, e, h⟩, by show dval (Ieee.double.read a) = _; rw [h]; rfl⟩
theorem zero64 : F64 0 /\ VV 0 = 0 := by
 obtain ⟨h1, h2⟩ := read_VV (a := 0) (s := false) (m := 0) (e := -1074) (by decide)
 exact ⟨h1, by rw [h2]; simp⟩
theorem one64 : F64 4607182418800017408 /\ VV 4607182418800017408 = 1 := by
 obtain ⟨h1, h2⟩ := read_VV (a := 4607182418800017408) (s := false) (m := 4503599627370496) (e := -52) (by decide)
 refine ⟨h1, ?_⟩
 rw [h2]
 have := p2_neg 52
 simp only [sgn]
 push_cast at this ⊢
 grind
theorem mone64 : F64 13830554455654793216 /\ VV 13830554455654793216 = -1 := by
 obtain ⟨h1, h2⟩ := read_VV (a := 13830554455654793216) (s := true) (m := 4503599627370496) (e := -52) (by decide)
 refine ⟨h1, ?_⟩
 rw [h2]
 have := p2_neg 52
 simp only [sgn]
 push_cast at this ⊢
 grind
theorem two64 : F64 4611686018427387904 /\ VV 4611686018427387904 = 2 := by
 obtain ⟨h1, h2⟩ := read_VV (a := 4611686018427387904) (s := false) (m := 4503599627370496) (e := -51) (by decide)
 refine ⟨h1, ?_⟩
 rw [h2]
 have := p2_neg 51
 simp only [sgn]
 push_cast at this ⊢
 grind
structure Dn (x0 y0 x1 y1 : Int) (X Y : Nat) : Prop where
 a : -65536 <= x0 /\ x0 <= 65536
 b : -65536 <= y0 /\ y0 <= 65536
 c : -65536 <= x1 /\ x1 <= 65536
 d : -65536 <= y1 /\ y1 <= 65536
 lt : y0 < y1
 hX : X <= 600
 hY : Y <= 600
section
variable {x0 y0 x1 y1 : Int} {X Y : Nat} (h : Dn x0 y0 x1 y1 X Y)
include h
theorem Dn.span : Span x0 y0 x1 y1 := ⟨by have := h.a; omega, by have := h.b; omega, by have := h.c; omega, by have := h.d; omega, h.lt⟩
theorem Dn.slope : Fok64 .quo (floatOfInt .f64 (x1 - x0)) (floatOfInt .f64 (y1 - y0)) /\ F64 (slope64 x0 y0 x1 y1) /\
  ab (VV (slope64 x0 y0 x1 y1) - slopeR x0 y0 x1 y1) <= ab (slopeR x0 y0 x1 y1) / 9007199254740992 + 1 / 1000000000000000000000000000000 /\ ab (slopeR x0 y0 x1 y1) <= 131072 := by
 have ha := h.a; have hb := h.b; have hc := h.c; have hd := h.d; have hlt := h.lt
 obtain ⟨i1, i2⟩ := int64w (n := x1 - x0) (by omega) (by omega)
 obtain ⟨j1, j2⟩ := int64w (n := y1 - y0) (by omega) (by omega)
 have hD := castLe (show 1 <= y1 - y0 by omega)
 have hX := ab_int_le (n := x1 - x0) (b := 131072) (by omega) (by omega)
 have e1 : ((1 : Int) : Rat) = 1 := rfl
 have hs : ab (slopeR x0 y0 x1 y1) <= 131072 := by
  have e := h.span.slopeR_mul
  have e2 : ab (slopeR x0 y0 x1 y1) * ab ((y1 - y0 : Int) : Rat) = ab ((x1 - x0 : Int) : Rat) := by rw [<- ab_mul, e]
  rw [ab_of_nonneg (x := ((y1 - y0 : Int) : Rat)) (by grind)] at e2
  have := Rat.mul_le_mul_of_nonneg_left hD (ab_nonneg (slopeR x0 y0 x1 y1))
  push_cast at hX
  grind
 obtain ⟨q1, q2⟩ := fquo64_ok i1 j1 (by rw [j2]; grind) (by
  rw [i2, j2, ab_of_nonneg (x := ((y1 - y0 : Int) : Rat)) (by grind)]
  have h1 : (1000000000000000000000000000000 : Rat) <= p2 1021 := big1021 Rat.le_refl
  have := Rat.mul_le_mul_of_nonneg_left hD (show (0 : Rat) <= p2 1021 by grind)
  push_cast at hX
  grind)
 rw [i2, j2] at q2
 exact ⟨q1, q2.fin, q2.near2 Rat.le_refl, hs⟩
theorem Dn.at_ {p : Nat} (hp : F64 p) (h1 : (y0 : Rat) <= VV p) (h2 : VV p <= y1) :
  AreaAtOk x0 y0 (slope64 x0 y0 x1 y1) p /\ F64 (areaAt x0 y0 (slope64 x0 y0 x1 y1) p) /\ ab (VV (areaAt x0 y0 (slope64 x0 y0 x1 y1) p) - xE x0 y0 x1 y1 (VV p)) <= 1 / 10000000000 /\ ab (xE x0 y0 x1 y1 (VV p)) <= 200000 := by
 obtain ⟨_, s1, s2, s3⟩ := h.slope
 have ha := h.a; have hb := h.b; have hc := h.c; have hd := h.d; have hlt := h.lt
 obtain ⟨i1, i2⟩ := int64w (n := x0) (by omega) (by omega)
 obtain ⟨j1, j2⟩ := int64w (n := y0) (by omega) (by omega)
 have hx0 := ab_int_le (n := x0) (b := 65536) (by omega) (by omega)
 have hDy := castLe (show y1 - y0 <= 131072 by omega)
 push_cast at hx0 hDy
 obtain ⟨q, hq⟩ : ∃ q, q = VV p - y0 := ⟨_, rfl⟩
 have hq0 : 0 <= q := by rw [hq]; grind
 have hq1 : q <= 131072 := by rw [hq]; grind
 have e := h.span.slopeR_mul
 have hdx := ab_int_le (n := x1 - x0) (b := 131072) (by omega) (by omega)
 obtain ⟨S, hS⟩ : ∃ S, S = slopeR x0 y0 x1 y1 := ⟨_, rfl⟩
 have hSq : ab (S * q) <= 131072 := by
  have hle : q <= ((y1 - y0 : Int) : Rat) := by rw [hq]; push_cast; grind
  have := Rat.mul_le_mul_of_nonneg_left hle (ab_nonneg S)
  have e2 : ab S * ab ((y1 - y0 : Int) : Rat) = ab ((x1 - x0 : Int) : Rat) := by rw [<- ab_mul, hS, e]
  rw [ab_of_nonneg (x := ((y1 - y0 : Int) : Rat)) (by grind)] at e2
  rw [ab_mul, ab_of_nonneg hq0]
  push_cast at hdx
  grind
 rw [<- hS] at s2 s3
 have hSq2 : ab S * q <= 131072 := by rw [ab_mul, ab_of_nonneg hq0] at hSq; exact hSq
 obtain ⟨d1, d2, d3⟩ := sub64 (a := p) (b := floatOfInt .f64 y0) hp j1 (M := q) (by rw [j2, <- hq, ab_of_nonneg hq0]; exact Rat.le_refl) (by grind)
 rw [j2, <- hq] at d3
 generalize hdd : fop64 .sub p (floatOfInt .f64 y0) = d at d1 d2 d3
 generalize hsl : slope64 x0 y0 x1 y1 = sl at s1 s2 ⊢
 have k1 : ab ((VV sl - S) * q) <= (ab S / 9007199254740992 + 1 / 1000000000000000000000000000000) * q := ab_mul_le s2 (by rw [ab_of_nonneg hq0]; exact Rat.le_refl)
 have k2 : ab (S * (VV d - q)) <= ab S * (q / 9007199254740992 + 1 / 1000000000000000000000000000000) := ab_mul_le Rat.le_refl d3
 have k3 : ab ((VV sl - S) * (VV d - q)) <= (131072 / 9007199254740992 + 1 / 1000000000000000000000000000000) * (131072 / 9007199254740992 + 1 / 1000000000000000000000000000000) := ab_mul_le (by grind) (by grind)
 have hprod : VV sl * VV d - S * q = (VV sl - S) * q + S * (VV d - q) + (VV sl - S) * (VV d - q) := by grind
 have kp : ab (VV sl * VV d - S * q) <= 3 / 100000000000 := by
  rw [hprod]
  obtain ⟨a1, a2⟩ := ab_iff.1 k1
  obtain ⟨b1, b2⟩ := ab_iff.1 k2
  obtain ⟨c1, c2⟩ := ab_iff.1 k3
  refine ab_le ?_ ?_ <;> grind
 obtain ⟨kp1, kp2⟩ := ab_iff.1 kp
 obtain ⟨sq1, sq2⟩ := ab_iff.1 hSq
 obtain ⟨m1, m2, m3⟩ := mul64 s1 d2 (M := 131073) (ab_le (by grind) (by grind)) (by grind)
 obtain ⟨mm1, mm2⟩ := ab_iff.1 m3
 obtain ⟨x01, x02⟩ := ab_iff.1 hx0
 obtain ⟨n1, n2, n3⟩ := add64 i1 m2 (M := 200000) (by rw [i2]; exact ab_le (by grind) (by grind)) (by grind)
 rw [i2] at n3
 obtain ⟨nn1, nn2⟩ := ab_iff.1 n3
 have hxE : xE x0 y0 x1 y1 (VV p) = x0 + S * q := by unfold xE; rw [hS, hq]
 refine ⟨⟨d1, by rw [hdd]; exact m1, by rw [hdd]; exact n1⟩, ?_, ?_, ?_⟩
 ·unfold areaAt; rw [hdd]; exact n2
 ·unfold areaAt; rw [hdd, hxE]; refine ab_le ?_ ?_ <;> grind
 ·rw [hxE]; refine ab_le ?_ ?_ <;> grind
theorem Dn.reach {sg p : Nat} (hp : F64 p) (h1 : (y0 : Rat) <= VV p) (h2 : VV p <= y1) :
  (ec64 sg x0 y0 x1 y1 X).ReachOk p /\ F64 ((ec64 sg x0 y0 x1 y1 X).reach p) /\ ab (VV ((ec64 sg x0 y0 x1 y1 X).reach p) - 64 * cl (uE x0 y0 x1 y1 X (VV p))) <= 2 / 10000000000 /\
   0 <= VV ((ec64 sg x0 y0 x1 y1 X).reach p) /\ VV ((ec64 sg x0 y0 x1 y1 X).reach p) <= 64 := by
 obtain ⟨a1, a2, a3, a4⟩ := h.at_ hp h1 h2
 have hX := h.hX
 obtain ⟨i1, i2⟩ := int64w (n := 64 * (X : Int) + 64) (by omega) (by omega)
 obtain ⟨j1, j2⟩ := int64w (n := 64) (by omega) (by omega)
 have hr := ab_int_le (n := 64 * (X : Int) + 64) (b := 40000) (by omega) (by omega)
 push_cast at hr j2
 have i2' : VV (floatOfInt .f64 (64 * (X : Int) + 64)) = 64 * (X : Rat) + 64 := by rw [i2]; push_cast; rfl
 obtain ⟨r1, r2⟩ := ab_iff.1 hr
 obtain ⟨b1, b2⟩ := ab_iff.1 a3
 obtain ⟨c1, c2⟩ := ab_iff.1 a4
 obtain ⟨d1, d2, d3⟩ := sub64 i1 a2 (M := 300000) (by rw [i2']; exact ab_le (by grind) (by grind)) (by grind)
 rw [i2'] at d3
 obtain ⟨e1, e2⟩ := ab_iff.1 d3
 obtain ⟨m1, m2⟩ := fmax64_val d2 zero64.1
 rw [zero64.2] at m2
 obtain ⟨n1, n2⟩ := fmin64_val m1 j1
 rw [j2] at n2
 have hu : 64 * uE x0 y0 x1 y1 X (VV p) = 64 * X + 64 - xE x0 y0 x1 y1 (VV p) := by unfold uE; grind
 have hV : VV ((ec64 sg x0 y0 x1 y1 X).reach p) = (if VV (fop64 .sub (floatOfInt .f64 (64 * (X : Int) + 64)) (areaAt x0 y0 (slope64 x0 y0 x1 y1) p)) < 0 then 0 else if 64 < VV (fop64 .sub (floatOfInt .f64 (64 * (X : Int) + 64)) (areaAt x0 y0 (slope64 x0 y0 x1 y1) p)) then 64 else VV (fop64 .sub (floatOfInt .f64 (64 * (X : Int) + 64)) (areaAt x0 y0 (slope64 x0 y0 x1 y1) p))) := by
  show VV (fmin64 (fmax64 (fop64 .sub (floatOfInt .f64 (64 * (X : Int) + 64)) (areaAt x0 y0 (slope64 x0 y0 x1 y1) p)) 0) (floatOfInt .f64 64)) = _
  rw [n2, m2]
  split <;> split <;> (try split) <;> grind
 refine ⟨⟨a1, d1, cmp64 d2 zero64.1, cmp64 m1 j1⟩, n1, ?_, ?_, ?_⟩
 ·rw [hV]
  generalize uE x0 y0 x1 y1 X (VV p) = u at hu ⊢
  generalize VV (fop64 .sub (floatOfInt .f64 (64 * (X : Int) + 64)) (areaAt x0 y0 (slope64 x0 y0 x1 y1) p)) = z at *
  rcases cl_cases u with ⟨w, e, _⟩ | ⟨w, w', e, _⟩ | ⟨w, e, _⟩ <;> rw [e] <;> split <;> (try split) <;> refine ab_le ?_ ?_ <;> grind
 ·rw [hV]; split <;> (try split) <;> grind
 ·rw [hV]; split <;> (try split) <;> grind
theorem Dn.cut (hne : x0 ≠ x1) {z : Int} (hz1 : 0 <= z) (hz2 : z <= 40000) :
  CutOk x0 y0 z (slope64 x0 y0 x1 y1) /\ F64 (cutW x0 y0 z (slope64 x0 y0 x1 y1)) /\ ab (xE x0 y0 x1 y1 (VV (cutW x0 y0 z (slope64 x0 y0 x1 y1))) - z) <= 1 / 900000 := by
 obtain ⟨_, s1, s2, s3⟩ := h.slope
 have ha := h.a; have hb := h.b; have hc := h.c; have hd := h.d; have hlt := h.lt
 obtain ⟨i1, i2⟩ := int64w (n := z - x0) (by omega) (by omega)
 obtain ⟨j1, j2⟩ := int64w (n := y0) (by omega) (by omega)
 have hy0 := ab_int_le (n := y0) (b := 65536) (by omega) (by omega)
 have hE := ab_int_le (n := z - x0) (b := 131072) (by omega) (by omega)
 push_cast at hy0 hE
 obtain ⟨S, hS⟩ : ∃ S, S = slopeR x0 y0 x1 y1 := ⟨_, rfl⟩
 have hSlo : 1 / 131072 <= ab S := by
  have e := h.span.slopeR_mul
  have e2 : ab S * ab ((y1 - y0 : Int) : Rat) = ab ((x1 - x0 : Int) : Rat) := by rw [<- ab_mul, hS, e]
  have g1 := castLe (show y1 - y0 <= 131072 by omega)
  have g2 := castLe (show 1 <= y1 - y0 by omega)
  have g3 : 1 <= ab ((x1 - x0 : Int) : Rat) := by
   rcases (by omega : 1 <= x1 - x0 ∨ x1 - x0 <= -1) with q | q
   ·have := castLe q
    have := le_ab ((x1 - x0 : Int) : Rat)
    have e1 : ((1 : Int) : Rat) = 1 := rfl
    grind
   ·have := castLe q
    have := neg_le_ab ((x1 - x0 : Int) : Rat)
    have e1 : ((-1 : Int) : Rat) = -1 := rfl
    grind
  have e1 : ((1 : Int) : Rat) = 1 := rfl
  rw [ab_of_nonneg (x := ((y1 - y0 : Int) : Rat)) (by grind)] at e2
  have := Rat.mul_le_mul_of_nonneg_left g1 (ab_nonneg S)
  push_cast at this
  grind
 rw [<- hS] at s2 s3
 obtain ⟨E, hEE⟩ : ∃ E : Rat, E = ((z - x0 : Int) : Rat) := ⟨_, rfl⟩
 rw [<- hEE] at i2
 have hE' : ab E <= 131072 := by rw [hEE]; push_cast; exact hE
 generalize slope64 x0 y0 x1 y1 = sl at s1 s2 ⊢
 obtain ⟨T, hT⟩ : ∃ T, T = VV sl := ⟨_, rfl⟩
 rw [<- hT] at s2
 have hT1 : ab T <= 131073 /\ 1 / 131073 <= ab T := by
  have g1 := ab_add_le S (T - S)
  have g2 := ab_sub_le T (T - S)
  have e1 : S + (T - S) = T := by grind
  have e2 : T - (T - S) = S := by grind
  rw [e1] at g1
  rw [e2] at g2
  constructor <;> grind
 have hT0 : T ≠ 0 := by
  intro h0
  have := hT1.2
  rw [h0] at this
  have e : ab 0 = 0 := by decide
  grind
 obtain ⟨q1, q2⟩ := fquo64_ok i1 s1 (by rw [<- hT]; exact hT0) (by
  rw [i2, <- hT]
  have h1 : (1000000000000000000000000000000 : Rat) <= p2 1021 := big1021 Rat.le_refl
  have := Rat.mul_le_mul_of_nonneg_left hT1.2 (show (0 : Rat) <= p2 1021 by grind)
  grind)
 rw [i2, <- hT] at q2
 have q3 := q2.near2 Rat.le_refl
 obtain ⟨q, hq⟩ : ∃ q, q = VV (fop64 .quo (floatOfInt .f64 (z - x0)) sl) := ⟨_, rfl⟩
 rw [<- hq] at q3
 have hET : E / T * T = E := Rat.div_mul_cancel hT0
 have k1 : ab ((q - E / T) * T) <= (ab (E / T) / 9007199254740992 + 1 / 1000000000000000000000000000000) * ab T := ab_mul_le q3 Rat.le_refl
 have k2 : ab (E / T) * ab T = ab E := by rw [<- ab_mul, hET]
 have k3 : (q - E / T) * T = q * T - E := by rw [<- hET]; grind
 rw [k3] at k1
 have k4 : ab (q * T - E) <= 131073 / 9007199254740992 := by grind
 have k5 : ab (q * T) <= 131073 := by
  have := ab_add_le (q * T - E) E
  have e1 : q * T - E + E = q * T := by grind
  rw [e1] at this
  grind
 have k6 : ab q <= 17200000000 := by
  rw [ab_mul] at k5
  have := Rat.mul_le_mul_of_nonneg_left hT1.2 (ab_nonneg q)
  grind
 have k7 : ab (q * (S - T)) <= ab q * (ab S / 9007199254740992 + 1 / 1000000000000000000000000000000) := by
  refine ab_mul_le Rat.le_refl ?_
  have e : S - T = -(T - S) := by grind
  rw [e, ab_neg]
  exact s2
 have k8 : ab q * ab S <= 131074 := by
  rw [<- ab_mul]
  have e : q * S = q * T + q * (S - T) := by grind
  have g := ab_add_le (q * T) (q * (S - T))
  rw [<- e] at g
  rw [ab_mul] at g ⊢
  have := Rat.mul_nonneg (ab_nonneg q) (ab_nonneg S)
  grind
 obtain ⟨y01, y02⟩ := ab_iff.1 hy0
 obtain ⟨n1, n2, n3⟩ := add64 j1 q2.fin (M := 65536 + ab q) (by rw [j2, <- hq]; have := ab_add_le (y0 : Rat) q; grind) (by grind)
 rw [j2, <- hq] at n3
 obtain ⟨C, hC⟩ : ∃ C, C = VV (fop64 .add (floatOfInt .f64 y0) (fop64 .quo (floatOfInt .f64 (z - x0)) sl)) := ⟨_, rfl⟩
 rw [<- hC] at n3
 have k9 : ab (S * (C - (y0 + q))) <= ab S * ((65536 + ab q) / 9007199254740992 + 1 / 1000000000000000000000000000000) := ab_mul_le Rat.le_refl n3
 refine ⟨⟨q1, n1⟩, n2, ?_⟩
 show ab (xE x0 y0 x1 y1 (VV (fop64 .add (floatOfInt .f64 y0) (fop64 .quo (floatOfInt .f64 (z - x0)) sl))) - z) <= 1 / 900000
 rw [<- hC]
 unfold xE
 rw [<- hS]
 have e : (x0 : Rat) + S * (C - y0) - z = S * (C - (y0 + q)) + q * (S - T) + (q * T - E) := by rw [hEE]; push_cast; grind
 rw [e]
 have g1 := ab_add_le (S * (C - (y0 + q)) + q * (S - T)) (q * T - E)
 have g2 := ab_add_le (S * (C - (y0 + q))) (q * (S - T))
 grind
omit h in
theorem Dn.u_lin (a b : Rat) : uE x0 y0 x1 y1 X a - uE x0 y0 x1 y1 X b = slopeR x0 y0 x1 y1 / 64 * (b - a) := by
 unfold uE xE
 grind
theorem Dn.trap (hne : x0 ≠ x1) {P Q : Rat} (k0 : (P <= VV (cutW x0 y0 (64 * (X : Int)) (slope64 x0 y0 x1 y1)) /\ Q <= VV (cutW x0 y0 (64 * (X : Int)) (slope64 x0 y0 x1 y1))) ∨ (VV (cutW x0 y0 (64 * (X : Int)) (slope64 x0 y0 x1 y1)) <= P /\ VV (cutW x0 y0 (64 * (X : Int)) (slope64 x0 y0 x1 y1)) <= Q))
  (k1 : (P <= VV (cutW x0 y0 (64 * (X : Int) + 64) (slope64 x0 y0 x1 y1)) /\ Q <= VV (cutW x0 y0 (64 * (X : Int) + 64) (slope64 x0 y0 x1 y1))) ∨ (VV (cutW x0 y0 (64 * (X : Int) + 64) (slope64 x0 y0 x1 y1)) <= P /\ VV (cutW x0 y0 (64 * (X : Int) + 64) (slope64 x0 y0 x1 y1)) <= Q)) :
  ab (mean (uE x0 y0 x1 y1 X P) (uE x0 y0 x1 y1 X Q) - (cl (uE x0 y0 x1 y1 X P) + cl (uE x0 y0 x1 y1 X Q)) / 2) <= 1 / 57600000 := by
 have hX := h.hX
 obtain ⟨_, _, c0⟩ := h.cut hne (z := 64 * (X : Int)) (by omega) (by omega)
 obtain ⟨_, _, c1⟩ := h.cut hne (z := 64 * (X : Int) + 64) (by omega) (by omega)
 generalize VV (cutW x0 y0 (64 * (X : Int)) (slope64 x0 y0 x1 y1)) = C0 at *
 generalize VV (cutW x0 y0 (64 * (X : Int) + 64) (slope64 x0 y0 x1 y1)) = C1 at *
 push_cast at c0 c1
 obtain ⟨a1, a2⟩ := ab_iff.1 c0
 obtain ⟨b1, b2⟩ := ab_iff.1 c1
 have mono : ∀ {a c : Rat}, (0 <= slopeR x0 y0 x1 y1 -> a <= c -> uE x0 y0 x1 y1 X c <= uE x0 y0 x1 y1 X a) /\ (slopeR x0 y0 x1 y1 <= 0 -> a <= c -> uE x0 y0 x1 y1 X a <= uE x0 y0 x1 y1 X c) := by
  intro a c
  have e := Dn.u_lin (x0 := x0) (y0 := y0) (x1 := x1) (y1 := y1) (X := X) a c
  constructor
  ·intro hs hac
   have := Rat.mul_nonneg hs (show 0 <= c - a by grind)
   grind
  ·intro hs hac
   have := Rat.mul_nonneg (show 0 <= -slopeR x0 y0 x1 y1 by grind) (show 0 <= c - a by grind)
   grind
 have side : ∀ {C : Rat}, (P <= C /\ Q <= C) ∨ (C <= P /\ C <= Q) -> (uE x0 y0 x1 y1 X P <= uE x0 y0 x1 y1 X C /\ uE x0 y0 x1 y1 X Q <= uE x0 y0 x1 y1 X C) ∨ (uE x0 y0 x1 y1 X C <= uE x0 y0 x1 y1 X P /\ uE x0 y0 x1 y1 X C <= uE x0 y0 x1 y1 X Q) := by
  intro C hk
  rcases Rat.le_total (a := 0) (b := slopeR x0 y0 x1 y1) with hs | hs
  ·rcases hk with hk | hk
   ·exact .inr ⟨mono.1 hs hk.1, mono.1 hs hk.2⟩
   ·exact .inl ⟨mono.1 hs hk.1, mono.1 hs hk.2⟩
  ·rcases hk with hk | hk
   ·exact .inl ⟨mono.2 hs hk.1, mono.2 hs hk.2⟩
   ·exact .inr ⟨mono.2 hs hk.1, mono.2 hs hk.2⟩
 have u0 : uE x0 y0 x1 y1 X C0 = X + 1 - xE x0 y0 x1 y1 C0 / 64 := rfl
 have u1 : uE x0 y0 x1 y1 X C1 = X + 1 - xE x0 y0 x1 y1 C1 / 64 := rfl
 obtain ⟨m1, m2⟩ := mean_trap (t := 1 / 57600000) (v0 := uE x0 y0 x1 y1 X C1) (v1 := uE x0 y0 x1 y1 X C0) (by rw [u1]; grind) (by rw [u1]; grind) (by rw [u0]; grind) (by rw [u0]; grind) (side k1) (side k0)
 refine ab_le ?_ ?_ <;> grind
end
theorem near_ab {a b e c d : Rat} (h : ab (a - b) <= e) (hb : ab b <= c) (hd : c + e <= d) : ab a <= d := by
 have := ab_add_le (a - b) b
 have e1 : a - b + b = a := by grind
 rw [e1] at this
 grind
theorem ab_pos_le {a c : Rat} (h0 : 0 <= a) (h : a <= c) : ab a <= c := by rw [ab_of_nonneg h0]; exact h
theorem ab_add_le2 {a b c d e : Rat} (ha : ab a <= c) (hb : ab b <= d) (h : c + d <= e) : ab (a + b) <= e := by
 have := ab_add_le a b
 grind
theorem ab_mul_le2 {a b c d e : Rat} (ha : ab a <= c) (hb : ab b <= d) (h : c * d <= e) : ab (a * b) <= e := Rat.le_trans (ab_mul_le ha hb) h
theorem piece_rat {g wd W1 W2 W3 W4 W5 W6 rp rq up uq s : Rat} (hg : ab g <= 1) (hw0 : 0 <= wd) (hw1 : wd <= 64) (hrp : 0 <= rp) (hrp1 : rp <= 64) (hrq : 0 <= rq) (hrq1 : rq <= 64)
  (c3 : ab (W1 - wd) <= 64 / 9007199254740992 + 1 / 1000000000000000000000000000000) (d3 : ab (W2 - g * W1) <= 65 / 9007199254740992 + 1 / 1000000000000000000000000000000)
  (e3 : ab (W3 - (rp + rq)) <= 128 / 9007199254740992 + 1 / 1000000000000000000000000000000) (heab : ab W3 <= 129) (f3 : ab (W4 - W2 * W3) <= 66 * 129 / 9007199254740992 + 1 / 1000000000000000000000000000000)
  (i3 : ab (W5 - W4 / 2) <= 4300 / 9007199254740992 + 1 / 1000000000000000000000000000000) (j3 : ab (W6 - (s + W5)) <= 1060000 / 9007199254740992 + 1 / 1000000000000000000000000000000)
  (a3 : ab (rp - 64 * cl up) <= 2 / 10000000000) (b3 : ab (rq - 64 * cl uq) <= 2 / 10000000000) (ht : ab (mean up uq - (cl up + cl uq) / 2) <= 1 / 57600000) :
  ab (W6 - (s + g * (64 * (wd * mean up uq)))) <= wd / 800000 + 1 / 1000000000 := by
 obtain ⟨j4, j5⟩ := ab_iff.1 j3
 obtain ⟨f4, f5⟩ := ab_iff.1 f3
 obtain ⟨i4, i5⟩ := ab_iff.1 i3
 obtain ⟨a6, a7⟩ := ab_iff.1 a3
 obtain ⟨b6, b7⟩ := ab_iff.1 b3
 obtain ⟨t1, t2⟩ := ab_iff.1 ht
 have w2 : ab (W2 - g * wd) <= 3 / 100000000000000 := by
  have hm : ab (g * (W1 - wd)) <= 1 * (64 / 9007199254740992 + 1 / 1000000000000000000000000000000) := ab_mul_le hg c3
  have e : W2 - g * wd = (W2 - g * W1) + g * (W1 - wd) := by grind
  rw [e]
  have := ab_add_le (W2 - g * W1) (g * (W1 - wd))
  grind
 have w3 : ab (W3 - (rp + rq)) <= 2 / 100000000000000 := by grind
 have hgw : ab (g * wd) <= 64 := by have := ab_mul_le hg (show ab wd <= 64 by rw [ab_of_nonneg hw0]; exact hw1); grind
 have k1 : ab ((W2 - g * wd) * W3) <= 3 / 100000000000000 * 129 := ab_mul_le w2 heab
 have k2 : ab (g * wd * (W3 - (rp + rq))) <= 64 * (2 / 100000000000000) := ab_mul_le hgw w3
 have k3 : ab (W2 * W3 - g * wd * (rp + rq)) <= 1 / 100000000000 := by
  have e : W2 * W3 - g * wd * (rp + rq) = (W2 - g * wd) * W3 + g * wd * (W3 - (rp + rq)) := by grind
  rw [e]
  have := ab_add_le ((W2 - g * wd) * W3) (g * wd * (W3 - (rp + rq)))
  grind
 obtain ⟨k4, k5⟩ := ab_iff.1 k3
 obtain ⟨D, hD⟩ : ∃ D, D = (rp + rq) / 2 - 64 * mean up uq := ⟨_, rfl⟩
 have hDb : ab D <= 1 / 800100 := by rw [hD]; exact ab_le (by grind) (by grind)
 have k6 : ab (wd * D) <= wd * (1 / 800100) := ab_mul_le (by rw [ab_of_nonneg hw0]; exact Rat.le_refl) hDb
 have k7 : ab (g * (wd * D)) <= 1 * (wd * (1 / 800100)) := ab_mul_le hg k6
 obtain ⟨k8, k9⟩ := ab_iff.1 k7
 have e : g * (64 * (wd * mean up uq)) = g * wd * (rp + rq) / 2 - g * (wd * D) := by rw [hD]; grind
 rw [e]
 refine ab_le ?_ ?_ <;> grind
theorem num_a : (64 : Rat) + (64 / 9007199254740992 + 1 / 1000000000000000000000000000000) <= 65 := by grind
theorem num_b : (1 : Rat) * 65 <= 65 := by grind
theorem num_c : (65 : Rat) + (65 / 9007199254740992 + 1 / 1000000000000000000000000000000) <= 66 := by grind
theorem num_d : (64 : Rat) + 64 <= 128 := by grind
theorem num_e : (128 : Rat) + (128 / 9007199254740992 + 1 / 1000000000000000000000000000000) <= 129 := by grind
theorem num_f : (66 : Rat) * 129 + (66 * 129 / 9007199254740992 + 1 / 1000000000000000000000000000000) <= 8600 := by grind
theorem num_g : (4300 : Rat) + (4300 / 9007199254740992 + 1 / 1000000000000000000000000000000) <= 4301 := by grind
theorem num_h : (1048576 : Rat) + 4301 <= 1060000 := by grind
theorem num_i {x : Rat} (h : x <= 1060000) : x <= 1000000000000000000000000000000 := by grind
theorem num_j {x : Rat} (h : ab x <= 8600) : ab (x / 2) <= 4300 /\ ab x <= p2 1021 * ab 2 := by
 have h1 : (1000000000000000000000000000000 : Rat) <= p2 1021 := big1021 Rat.le_refl
 have e : ab 2 = 2 := ab_of_nonneg (by grind)
 obtain ⟨a, b⟩ := ab_iff.1 h
 constructor
 ·exact ab_le (by grind) (by grind)
 ·rw [e]; grind
theorem num_k : (66 : Rat) * 129 <= 1060000 := by grind
section
variable {x0 y0 x1 y1 : Int} {X Y : Nat} (h : Dn x0 y0 x1 y1 X Y)
include h
theorem Dn.piece {sg : Nat} {g : Rat} (hsg : F64 sg) (hsgv : VV sg = g) (hg : ab g <= 1) {p q s : Nat} (hp : F64 p) (hq : F64 q) (h1 : (y0 : Rat) <= VV p) (h2 : VV p <= VV q) (h3 : VV q <= y1) (h4 : VV q - VV p <= 64) (hs : F64 s) (hs2 : ab (VV s) <= 1048576)
  (ht : ab (mean (uE x0 y0 x1 y1 X (VV p)) (uE x0 y0 x1 y1 X (VV q)) - (cl (uE x0 y0 x1 y1 X (VV p)) + cl (uE x0 y0 x1 y1 X (VV q))) / 2) <= 1 / 57600000) :
  (ec64 sg x0 y0 x1 y1 X).PieceOk p q s /\ F64 (fop64 .add s ((ec64 sg x0 y0 x1 y1 X).piece p q)) /\
   ab (VV (fop64 .add s ((ec64 sg x0 y0 x1 y1 X).piece p q)) - (VV s + g * (64 * ((VV q - VV p) * mean (uE x0 y0 x1 y1 X (VV p)) (uE x0 y0 x1 y1 X (VV q)))))) <= (VV q - VV p) / 800000 + 1 / 1000000000 := by
 obtain ⟨a1, a2, a3, a4, a5⟩ := h.reach (sg := sg) hp h1 (Rat.le_trans h2 h3)
 obtain ⟨b1, b2, b3, b4, b5⟩ := h.reach (sg := sg) hq (Rat.le_trans h1 h2) h3
 have hw0 : 0 <= VV q - VV p := (Rat.le_iff_sub_nonneg _ _).1 h2
 obtain ⟨c1, c2, c3⟩ := sub64 hq hp (M := 64) (ab_pos_le hw0 h4) (num_i (by decide +kernel))
 have hcab := near_ab c3 (ab_pos_le hw0 h4) num_a
 obtain ⟨d1, d2, d3⟩ := mul64 hsg c2 (M := 65) (by rw [hsgv]; exact ab_mul_le2 hg hcab num_b) (num_i (by decide +kernel))
 rw [hsgv] at d3
 have hdab := near_ab d3 (ab_mul_le2 hg hcab num_b) num_c
 obtain ⟨e1, e2, e3⟩ := add64 a2 b2 (M := 128) (ab_add_le2 (ab_pos_le a4 a5) (ab_pos_le b4 b5) num_d) (num_i (by decide +kernel))
 have heab := near_ab e3 (ab_add_le2 (ab_pos_le a4 a5) (ab_pos_le b4 b5) num_d) num_e
 obtain ⟨f1, f2, f3⟩ := mul64 d2 e2 (M := 66 * 129) (ab_mul_le hdab heab) (num_i num_k)
 have hfab := near_ab f3 (ab_mul_le hdab heab) num_f
 have hj := num_j hfab
 obtain ⟨i1, i2⟩ := fquo64_ok f2 two64.1 (by rw [two64.2]; decide) (by rw [two64.2]; exact hj.2)
 rw [two64.2] at i2
 have i3 := i2.near2 hj.1
 have hiab := near_ab i3 hj.1 num_g
 obtain ⟨j1, j2, j3⟩ := add64 hs i2.fin (M := 1060000) (ab_add_le2 hs2 hiab num_h) (num_i Rat.le_refl)
 exact ⟨⟨a1, b1, c1, d1, e1, f1, i1, j1⟩, j2, piece_rat hg hw0 h4 a4 a5 b4 b5 c3 d3 e3 heab f3 i3 j3 a3 b3 ht⟩
end
theorem fgt64_iff {a b : Nat} (ha : F64 a) (hb : F64 b) : fgt64 a b = true ↔ VV b < VV a := by
 unfold fgt64
 rw [order64 ha hb]
 by_cases h1 : VV a < VV b
 ·rw [if_pos h1]
  exact ⟨fun h => (by cases h), fun h => by grind⟩
 ·rw [if_neg h1]
  by_cases h2 : VV a = VV b
  ·rw [if_pos h2]
   exact ⟨fun h => (by cases h), fun h => by grind⟩
  ·rw [if_neg h2]
   exact ⟨fun _ => by grind, fun _ => rfl⟩
theorem flt64_iff {a b : Nat} (ha : F64 a) (hb : F64 b) : flt64 a b = true ↔ VV a < VV b := by
 unfold flt64
 rw [order64 ha hb]
 by_cases h1 : VV a < VV b
 ·rw [if_pos h1]
  exact ⟨fun _ => h1, fun _ => rfl⟩
 ·rw [if_neg h1]
  by_cases h2 : VV a = VV b
  ·rw [if_pos h2]
   exact ⟨fun h => (by cases h), fun h => by grind⟩
  ·rw [if_neg h2]
   exact ⟨fun h => (by cases h), fun h => by grind⟩
theorem fge64_iff {a b : Nat} (ha : F64 a) (hb : F64 b) : fge64 a b = true ↔ VV b <= VV a := by
 unfold fge64
 rw [order64 ha hb]
 by_cases h1 : VV a < VV b
 ·rw [if_pos h1]
  exact ⟨fun h => (by cases h), fun h => by grind⟩
 ·rw [if_neg h1]
  by_cases h2 : VV a = VV b
  ·rw [if_pos h2]
   exact ⟨fun _ => by grind, fun _ => rfl⟩
  ·rw [if_neg h2]
   exact ⟨fun _ => by grind, fun _ => rfl⟩
theorem sort2 {t b : Nat} (h : flt64 b t = false) : sortTo 2 [t, b] = [t, b] := by
 simp [sortTo, sink, h]
theorem sort3 {t b c : Nat} (h1 : flt64 b t = false) (h2 : flt64 c b = true) (h3 : flt64 c t = false) : sortTo 3 [t, b, c] = [t, c, b] := by
 simp [sortTo, sink, swapAt, h1, h2, h3]
theorem sort4 {t b c d : Nat} (h1 : flt64 b t = false) (h2 : flt64 c b = true) (h3 : flt64 c t = false) (h4 : flt64 d b = true) (h5 : flt64 d t = false) : sortTo 4 [t, b, c, d] = if flt64 d c = true then [t, d, c, b] else [t, c, d, b] := by
 by_cases h6 : flt64 d c = true
 ·simp [sortTo, sink, swapAt, h1, h2, h3, h4, h5, h6]
 ·have h7 : flt64 d c = false := Bool.eq_false_iff.2 h6
  simp [sortTo, sink, swapAt, h1, h2, h3, h4, h7]
theorem ratLtOrLe {a b : Rat} : a < b ∨ b <= a := by
 by_cases h : b <= a
 ·exact .inr h
 ·left; grind
structure FitP (x0 y0 x1 y1 : Int) (X p q : Nat) : Prop where
 fp : F64 p
 fq : F64 q
 lo : (y0 : Rat) <= VV p
 le : VV p <= VV q
 hi : VV q <= y1
 tr : ab (mean (uE x0 y0 x1 y1 X (VV p)) (uE x0 y0 x1 y1 X (VV q)) - (cl (uE x0 y0 x1 y1 X (VV p)) + cl (uE x0 y0 x1 y1 X (VV q))) / 2) <= 1 / 57600000
theorem sums_rat {g s s1 s2 P0 P1 P2 m1 m2 m3 : Rat} {i : Nat} (hg : ab g <= 1) (hj : (P1 - P0) * m1 + (P2 - P1) * m2 = (P2 - P0) * m3) (h1 : ab (s1 - (s + g * (64 * ((P1 - P0) * m1)))) <= (P1 - P0) / 800000 + i * (1 / 1000000000)) (h2 : ab (s2 - (s1 + g * (64 * ((P2 - P1) * m2)))) <= (P2 - P1) / 800000 + 1 / 1000000000) :
  ab (s2 - (s + g * (64 * ((P2 - P0) * m3)))) <= (P2 - P0) / 800000 + (i + 1 : Nat) * (1 / 1000000000) := by
 rw [<- hj]
 have e : s2 - (s + g * (64 * ((P1 - P0) * m1 + (P2 - P1) * m2))) = (s2 - (s1 + g * (64 * ((P2 - P1) * m2)))) + (s1 - (s + g * (64 * ((P1 - P0) * m1)))) := by grind
 rw [e]
 have := ab_add_le (s2 - (s1 + g * (64 * ((P2 - P1) * m2)))) (s1 - (s + g * (64 * ((P1 - P0) * m1))))
 push_cast
 grind
theorem size_rat {g s s1 P0 P1 m1 : Rat} {i : Nat} (hi : i <= 10) (hg : ab g <= 1) (hP : 0 <= P1 - P0) (hP2 : P1 - P0 <= 64) (hm : 0 <= m1) (hm1 : m1 <= 1) (hs : ab s <= 1000000) (h1 : ab (s1 - (s + g * (64 * ((P1 - P0) * m1)))) <= (P1 - P0) / 800000 + i * (1 / 1000000000)) : ab s1 <= 1048576 := by
 have k := ab_mul_le (show ab (P1 - P0) <= 64 by rw [ab_of_nonneg hP]; exact hP2) (show ab m1 <= 1 by rw [ab_of_nonneg hm]; exact hm1)
 have k2 := ab_mul_le (show ab (64 : Rat) <= 64 by rw [ab_of_nonneg (by grind)]; exact Rat.le_refl) k
 have k3 := ab_mul_le hg k2
 have hi' : (i : Rat) <= 10 := by exact_mod_cast hi
 have k4 := ab_add_le2 hs k3 (e := 1005000) (by grind)
 exact near_ab h1 k4 (by grind)
section
variable {x0 y0 x1 y1 : Int} {X Y : Nat} (h : Dn x0 y0 x1 y1 X Y)
include h
theorem Dn.sums {sg : Nat} {g : Rat} (hsg : F64 sg) (hsgv : VV sg = g) (hg : ab g <= 1) {s : Nat} (hs : F64 s) (hs2 : ab (VV s) <= 1000000) {cs : List Nat} (hlen : cs.length <= 10)
  (hfit : ∀ i, i + 1 < cs.length -> FitP x0 y0 x1 y1 X (cs.getD i 0) (cs.getD (i + 1) 0)) (hfar : ∀ i, i < cs.length -> 0 <= VV (cs.getD i 0) - VV (cs.getD 0 0) /\ VV (cs.getD i 0) - VV (cs.getD 0 0) <= 64) :
  ∀ i, i < cs.length -> (∀ j, j < i -> (ec64 sg x0 y0 x1 y1 X).PieceOk (cs.getD j 0) (cs.getD (j + 1) 0) ((ec64 sg x0 y0 x1 y1 X).sum cs s j)) /\ F64 ((ec64 sg x0 y0 x1 y1 X).sum cs s i) /\
   ab (VV ((ec64 sg x0 y0 x1 y1 X).sum cs s i) - (VV s + g * (64 * ((VV (cs.getD i 0) - VV (cs.getD 0 0)) * mean (uE x0 y0 x1 y1 X (VV (cs.getD 0 0))) (uE x0 y0 x1 y1 X (VV (cs.getD i 0))))))) <= (VV (cs.getD i 0) - VV (cs.getD 0 0)) / 800000 + i * (1 / 1000000000)
 | 0, _ => by
  refine ⟨fun j hj => by omega, hs, ?_⟩
  have e : (ec64 sg x0 y0 x1 y1 X).sum cs s 0 = s := rfl
  rw [e]
  generalize VV s = a
  generalize VV (cs.getD 0 0) = b
  have e2 : a - (a + g * (64 * ((b - b) * mean (uE x0 y0 x1 y1 X b) (uE x0 y0 x1 y1 X b)))) = 0 := by grind
  have e3 : ab 0 = 0 := ab_of_nonneg Rat.le_refl
  rw [e2, e3]
  have e4 : (((0 : Nat) : Rat)) = 0 := rfl
  rw [e4]
  grind
 | i + 1, hi => by
  obtain ⟨i1, i2, i3⟩ := Dn.sums hsg hsgv hg hs hs2 hlen hfit hfar i (by omega)
  obtain ⟨f1, f2, f3, f4, f5, f6⟩ := hfit i hi
  have far1 := hfar i (by omega)
  have far2 := hfar (i + 1) hi
  have mb := mean_bd (uE x0 y0 x1 y1 X (VV (cs.getD 0 0))) (uE x0 y0 x1 y1 X (VV (cs.getD i 0)))
  have sz := size_rat (by omega) hg far1.1 far1.2 mb.1 mb.2 hs2 i3
  have h64 : VV (cs.getD (i + 1) 0) - VV (cs.getD i 0) <= 64 := by
   have a := far1.1
   have b := far2.2
   generalize VV (cs.getD (i + 1) 0) = z at *
   generalize VV (cs.getD i 0) = y at *
   generalize VV (cs.getD 0 0) = x at *
   clear i1 i2 i3 f1 f2 f3 f4 f5 f6 sz mb far1 far2
   grind
  obtain ⟨p1, p2, p3⟩ := h.piece hsg hsgv hg f1 f2 f3 f4 f5 h64 i2 sz f6
  have hj := mean_join (u := uE x0 y0 x1 y1 X) (c := slopeR x0 y0 x1 y1 / 64) (fun a b => Dn.u_lin (x0 := x0) (y0 := y0) (x1 := x1) (y1 := y1) (X := X) a b) (VV (cs.getD 0 0)) (VV (cs.getD i 0)) (VV (cs.getD (i + 1) 0))
  refine ⟨fun j hj => ?_, p2, sums_rat hg hj i3 p3⟩
  rcases Nat.lt_or_ge j i with hc | hc
  ·exact i1 j hc
  ·obtain rfl : j = i := by omega
   exact p1
structure Shape (x0 y0 x1 y1 : Int) (X Y : Nat) (T B : Rat) (L : List Nat) : Prop where
 sorted : sortTo (cuts64 x0 y0 x1 y1 X Y).length (cuts64 x0 y0 x1 y1 X Y) = L
 len : (cuts64 x0 y0 x1 y1 X Y).length = L.length
 two : 2 <= L.length
 ten : L.length <= 10
 first : VV (L.getD 0 0) = T
 last : VV (L.getD (L.length - 1) 0) = B
 fit : ∀ i, i + 1 < L.length -> FitP x0 y0 x1 y1 X (L.getD i 0) (L.getD (i + 1) 0)
 far : ∀ i, i < L.length -> T <= VV (L.getD i 0) /\ VV (L.getD i 0) <= B
theorem Dn.shape {T B : Rat} (ht : F64 (top64 y0 Y)) (hT : VV (top64 y0 Y) = T) (hb : F64 (bot64 y1 Y)) (hB : VV (bot64 y1 Y) = B) (hlt : T < B) (hy0 : (y0 : Rat) <= T) (hy1 : B <= y1) : ∃ L, Shape x0 y0 x1 y1 X Y T B L := by
 have s1 : flt64 (bot64 y1 Y) (top64 y0 Y) = false := by rw [Bool.eq_false_iff]; intro hc; have := (flt64_iff hb ht).1 hc; rw [hT, hB] at this; grind
 by_cases hx : x0 = x1
 ·have hc : cuts64 x0 y0 x1 y1 X Y = [top64 y0 Y, bot64 y1 Y] := by rw [cuts64, if_pos hx]
  have hu : ∀ a b, uE x0 y0 x1 y1 X a = uE x0 y0 x1 y1 X b := by
   intro a b
   have e := Dn.u_lin (x0 := x0) (y0 := y0) (x1 := x1) (y1 := y1) (X := X) a b
   have e2 := h.span.slopeR_mul
   have e3 : ((x1 - x0 : Int) : Rat) = 0 := by rw [hx, Int.sub_self]; rfl
   have e4 : slopeR x0 y0 x1 y1 = 0 := by unfold slopeR; rw [e3]; grind
   rw [e4] at e
   grind
  refine ⟨[top64 y0 Y, bot64 y1 Y], by rw [hc]; exact sort2 s1, by rw [hc], by simp, by simp, hT, hB, ?_, ?_⟩
  ·intro i hi
   obtain rfl : i = 0 := by simp at hi; omega
   refine ⟨ht, hb, by show _ <= VV (top64 y0 Y); rw [hT]; exact hy0, by show VV (top64 y0 Y) <= VV (bot64 y1 Y); rw [hT, hB]; exact Rat.le_of_lt hlt, by show VV (bot64 y1 Y) <= _; rw [hB]; exact hy1, ?_⟩
   rw [hu (VV ([top64 y0 Y, bot64 y1 Y].getD 0 0)) (VV ([top64 y0 Y, bot64 y1 Y].getD (0 + 1) 0)), mean_self]
   generalize cl (uE x0 y0 x1 y1 X (VV ([top64 y0 Y, bot64 y1 Y].getD (0 + 1) 0))) = z
   have e : z - (z + z) / 2 = 0 := by grind
   rw [e, ab_of_nonneg Rat.le_refl]
   decide +kernel
  ·intro i hi
   have hi' : i < 2 := by simpa using hi
   rcases (by omega : i = 0 ∨ i = 1) with rfl | rfl
   ·show T <= VV (top64 y0 Y) /\ VV (top64 y0 Y) <= B
    rw [hT]; exact ⟨Rat.le_refl, Rat.le_of_lt hlt⟩
   ·show T <= VV (bot64 y1 Y) /\ VV (bot64 y1 Y) <= B
    rw [hB]; exact ⟨Rat.le_of_lt hlt, Rat.le_refl⟩
 ·have hXb := h.hX
  obtain ⟨_, f0, _⟩ := h.cut hx (z := 64 * (X : Int)) (by omega) (by omega)
  obtain ⟨_, f1, _⟩ := h.cut hx (z := 64 * (X : Int) + 64) (by omega) (by omega)
  have tr := fun {P Q : Rat} k0 k1 => h.trap hx (P := P) (Q := Q) k0 k1
  have hc : cuts64 x0 y0 x1 y1 X Y = addCut (top64 y0 Y) (bot64 y1 Y) (cutW x0 y0 (64 * X + 64) (slope64 x0 y0 x1 y1)) (addCut (top64 y0 Y) (bot64 y1 Y) (cutW x0 y0 (64 * X) (slope64 x0 y0 x1 y1)) [top64 y0 Y, bot64 y1 Y]) := by rw [cuts64, if_neg hx]
  generalize cutW x0 y0 (64 * (X : Int)) (slope64 x0 y0 x1 y1) = w0 at *
  generalize cutW x0 y0 (64 * (X : Int) + 64) (slope64 x0 y0 x1 y1) = w1 at *
  generalize top64 y0 Y = t at *
  generalize bot64 y1 Y = b at *
  have g0 := fgt64_iff f0 ht
  have g1 := flt64_iff f0 hb
  have g2 := fgt64_iff f1 ht
  have g3 := flt64_iff f1 hb
  rw [hT] at g0 g2
  rw [hB] at g1 g3
  have n0 : T < VV w0 -> flt64 w0 t = false := fun hh => by rw [Bool.eq_false_iff]; intro hc; have := (flt64_iff f0 ht).1 hc; rw [hT] at this; clear tr; grind
  have n1 : T < VV w1 -> flt64 w1 t = false := fun hh => by rw [Bool.eq_false_iff]; intro hc; have := (flt64_iff f1 ht).1 hc; rw [hT] at this; clear tr; grind
  have n2 := flt64_iff f1 f0
  have mk : ∀ {p q : Nat}, F64 p -> F64 q -> T <= VV p -> VV p <= VV q -> VV q <= B -> ((VV p <= VV w0 /\ VV q <= VV w0) ∨ (VV w0 <= VV p /\ VV w0 <= VV q)) -> ((VV p <= VV w1 /\ VV q <= VV w1) ∨ (VV w1 <= VV p /\ VV w1 <= VV q)) -> FitP x0 y0 x1 y1 X p q :=
   fun hp hq a1 a2 a3 k0 k1 => ⟨hp, hq, Rat.le_trans hy0 a1, a2, Rat.le_trans a3 hy1, tr k0 k1⟩
  clear tr
  by_cases in0 : T < VV w0 /\ VV w0 < B
  ·have a0 : addCut t b w0 [t, b] = [t, b, w0] := by rw [addCut, if_pos ⟨g0.2 in0.1, g1.2 in0.2⟩]; rfl
   rw [a0] at hc
   by_cases in1 : T < VV w1 /\ VV w1 < B
   ·rw [addCut, if_pos ⟨g2.2 in1.1, g3.2 in1.2⟩] at hc
    have hs := sort4 s1 (g1.2 in0.2) (n0 in0.1) (g3.2 in1.2) (n1 in1.1)
    by_cases hd : flt64 w1 w0 = true
    ·rw [if_pos hd] at hs
     have hd2 := n2.1 hd
     refine ⟨[t, w1, w0, b], by rw [hc]; exact hs, by rw [hc]; rfl, by simp, by simp, hT, hB, ?_, ?_⟩
     ·intro i hi
      have hi' : i < 3 := by simp at hi; omega
      rcases (by omega : i = 0 ∨ i = 1 ∨ i = 2) with rfl | rfl | rfl
      ·exact mk (p := t) (q := w1) ht f1 (by rw [hT]; exact Rat.le_refl) (by rw [hT]; exact Rat.le_of_lt in1.1) (Rat.le_of_lt in1.2) (.inl ⟨by rw [hT]; exact Rat.le_of_lt in0.1, Rat.le_of_lt hd2⟩) (.inl ⟨by rw [hT]; exact Rat.le_of_lt in1.1, Rat.le_refl⟩)
      ·exact mk (p := w1) (q := w0) f1 f0 (Rat.le_of_lt in1.1) (Rat.le_of_lt hd2) (Rat.le_of_lt in0.2) (.inl ⟨Rat.le_of_lt hd2, Rat.le_refl⟩) (.inr ⟨Rat.le_refl, Rat.le_of_lt hd2⟩)
      ·exact mk (p := w0) (q := b) f0 hb (Rat.le_of_lt in0.1) (by rw [hB]; exact Rat.le_of_lt in0.2) (by rw [hB]; exact Rat.le_refl) (.inr ⟨Rat.le_refl, by rw [hB]; exact Rat.le_of_lt in0.2⟩) (.inr ⟨Rat.le_of_lt hd2, by rw [hB]; exact Rat.le_of_lt in1.2⟩)
     ·intro i hi
      have hi' : i < 4 := by simpa using hi
      rcases (by omega : i = 0 ∨ i = 1 ∨ i = 2 ∨ i = 3) with rfl | rfl | rfl | rfl
      ·exact ⟨by rw [<- hT]; exact Rat.le_refl, by show VV t <= B; rw [hT]; exact Rat.le_of_lt hlt⟩
      ·exact ⟨Rat.le_of_lt in1.1, Rat.le_of_lt in1.2⟩
      ·exact ⟨Rat.le_of_lt in0.1, Rat.le_of_lt in0.2⟩
      ·exact ⟨by show T <= VV b; rw [hB]; exact Rat.le_of_lt hlt, by rw [<- hB]; exact Rat.le_refl⟩
    ·rw [if_neg hd] at hs
     have hd2 : VV w0 <= VV w1 := by
      rcases ratLtOrLe (a := VV w1) (b := VV w0) with q | q
      ·exact absurd (n2.2 q) hd
      ·exact q
     refine ⟨[t, w0, w1, b], by rw [hc]; exact hs, by rw [hc]; rfl, by simp, by simp, hT, hB, ?_, ?_⟩
     ·intro i hi
      have hi' : i < 3 := by simp at hi; omega
      rcases (by omega : i = 0 ∨ i = 1 ∨ i = 2) with rfl | rfl | rfl
      ·exact mk (p := t) (q := w0) ht f0 (by rw [hT]; exact Rat.le_refl) (by rw [hT]; exact Rat.le_of_lt in0.1) (Rat.le_of_lt in0.2) (.inl ⟨by rw [hT]; exact Rat.le_of_lt in0.1, Rat.le_refl⟩) (.inl ⟨by rw [hT]; exact Rat.le_of_lt in1.1, hd2⟩)
      ·exact mk (p := w0) (q := w1) f0 f1 (Rat.le_of_lt in0.1) hd2 (Rat.le_of_lt in1.2) (.inr ⟨Rat.le_refl, hd2⟩) (.inl ⟨hd2, Rat.le_refl⟩)
      ·exact mk (p := w1) (q := b) f1 hb (Rat.le_of_lt in1.1) (by rw [hB]; exact Rat.le_of_lt in1.2) (by rw [hB]; exact Rat.le_refl) (.inr ⟨hd2, by rw [hB]; exact Rat.le_of_lt in0.2⟩) (.inr ⟨Rat.le_refl, by rw [hB]; exact Rat.le_of_lt in1.2⟩)
     ·intro i hi
      have hi' : i < 4 := by simpa using hi
      rcases (by omega : i = 0 ∨ i = 1 ∨ i = 2 ∨ i = 3) with rfl | rfl | rfl | rfl
      ·exact ⟨by rw [<- hT]; exact Rat.le_refl, by show VV t <= B; rw [hT]; exact Rat.le_of_lt hlt⟩
      ·exact ⟨Rat.le_of_lt in0.1, Rat.le_of_lt in0.2⟩
      ·exact ⟨Rat.le_of_lt in1.1, Rat.le_of_lt in1.2⟩
      ·exact ⟨by show T <= VV b; rw [hB]; exact Rat.le_of_lt hlt, by rw [<- hB]; exact Rat.le_refl⟩
   ·rw [addCut, if_neg (fun hh => in1 ⟨g2.1 hh.1, g3.1 hh.2⟩)] at hc
    have out1 : VV w1 <= T ∨ B <= VV w1 := by
     rcases ratLtOrLe (a := T) (b := VV w1) with q | q
     ·rcases ratLtOrLe (a := VV w1) (b := B) with r | r
      ·exact absurd ⟨q, r⟩ in1
      ·exact .inr r
     ·exact .inl q
    refine ⟨[t, w0, b], by rw [hc]; exact sort3 s1 (g1.2 in0.2) (n0 in0.1), by rw [hc]; rfl, by simp, by simp, hT, hB, ?_, ?_⟩
    ·intro i hi
     have hi' : i < 2 := by simp at hi; omega
     rcases (by omega : i = 0 ∨ i = 1) with rfl | rfl
     ·exact mk (p := t) (q := w0) ht f0 (by rw [hT]; exact Rat.le_refl) (by rw [hT]; exact Rat.le_of_lt in0.1) (Rat.le_of_lt in0.2) (.inl ⟨by rw [hT]; exact Rat.le_of_lt in0.1, Rat.le_refl⟩)
       (by rcases out1 with q | q
           ·exact .inr ⟨by rw [hT]; exact q, Rat.le_trans q (Rat.le_of_lt in0.1)⟩
           ·exact .inl ⟨by rw [hT]; exact Rat.le_trans (Rat.le_of_lt hlt) q, Rat.le_trans (Rat.le_of_lt in0.2) q⟩)
     ·exact mk (p := w0) (q := b) f0 hb (Rat.le_of_lt in0.1) (by rw [hB]; exact Rat.le_of_lt in0.2) (by rw [hB]; exact Rat.le_refl) (.inr ⟨Rat.le_refl, by rw [hB]; exact Rat.le_of_lt in0.2⟩)
       (by rcases out1 with q | q
           ·exact .inr ⟨Rat.le_trans q (Rat.le_of_lt in0.1), by rw [hB]; exact Rat.le_trans q (Rat.le_of_lt hlt)⟩
           ·exact .inl ⟨Rat.le_trans (Rat.le_of_lt in0.2) q, by rw [hB]; exact q⟩)
    ·intro i hi
     have hi' : i < 3 := by simpa using hi
     rcases (by omega : i = 0 ∨ i = 1 ∨ i = 2) with rfl | rfl | rfl
     ·exact ⟨by rw [<- hT]; exact Rat.le_refl, by show VV t <= B; rw [hT]; exact Rat.le_of_lt hlt⟩
     ·exact ⟨Rat.le_of_lt in0.1, Rat.le_of_lt in0.2⟩
     ·exact ⟨by show T <= VV b; rw [hB]; exact Rat.le_of_lt hlt, by rw [<- hB]; exact Rat.le_refl⟩
  ·have a0 : addCut t b w0 [t, b] = [t, b] := by rw [addCut, if_neg (fun hh => in0 ⟨g0.1 hh.1, g1.1 hh.2⟩)]
   rw [a0] at hc
   have out0 : VV w0 <= T ∨ B <= VV w0 := by
    rcases ratLtOrLe (a := T) (b := VV w0) with q | q
    ·rcases ratLtOrLe (a := VV w0) (b := B) with r | r
     ·exact absurd ⟨q, r⟩ in0
     ·exact .inr r
    ·exact .inl q
   by_cases in1 : T < VV w1 /\ VV w1 < B
   ·rw [addCut, if_pos ⟨g2.2 in1.1, g3.2 in1.2⟩] at hc
    refine ⟨[t, w1, b], by rw [hc]; exact sort3 s1 (g3.2 in1.2) (n1 in1.1), by rw [hc]; rfl, by simp, by simp, hT, hB, ?_, ?_⟩
    ·intro i hi
     have hi' : i < 2 := by simp at hi; omega
     rcases (by omega : i = 0 ∨ i = 1) with rfl | rfl
     ·exact mk (p := t) (q := w1) ht f1 (by rw [hT]; exact Rat.le_refl) (by rw [hT]; exact Rat.le_of_lt in1.1) (Rat.le_of_lt in1.2)
       (by rcases out0 with q | q
           ·exact .inr ⟨by rw [hT]; exact q, Rat.le_trans q (Rat.le_of_lt in1.1)⟩
           ·exact .inl ⟨by rw [hT]; exact Rat.le_trans (Rat.le_of_lt hlt) q, Rat.le_trans (Rat.le_of_lt in1.2) q⟩) (.inl ⟨by rw [hT]; exact Rat.le_of_lt in1.1, Rat.le_refl⟩)
     ·exact mk (p := w1) (q := b) f1 hb (Rat.le_of_lt in1.1) (by rw [hB]; exact Rat.le_of_lt in1.2) (by rw [hB]; exact Rat.le_refl)
       (by rcases out0 with q | q
           ·exact .inr ⟨Rat.le_trans q (Rat.le_of_lt in1.1), by rw [hB]; exact Rat.le_trans q (Rat.le_of_lt hlt)⟩
           ·exact .inl ⟨Rat.le_trans (Rat.le_of_lt in1.2) q, by rw [hB]; exact q⟩) (.inr ⟨Rat.le_refl, by rw [hB]; exact Rat.le_of_lt in1.2⟩)
    ·intro i hi
     have hi' : i < 3 := by simpa using hi
     rcases (by omega : i = 0 ∨ i = 1 ∨ i = 2) with rfl | rfl | rfl
     ·exact ⟨by rw [<- hT]; exact Rat.le_refl, by show VV t <= B; rw [hT]; exact Rat.le_of_lt hlt⟩
     ·exact ⟨Rat.le_of_lt in1.1, Rat.le_of_lt in1.2⟩
     ·exact ⟨by show T <= VV b; rw [hB]; exact Rat.le_of_lt hlt, by rw [<- hB]; exact Rat.le_refl⟩
   ·rw [addCut, if_neg (fun hh => in1 ⟨g2.1 hh.1, g3.1 hh.2⟩)] at hc
    have out1 : VV w1 <= T ∨ B <= VV w1 := by
     rcases ratLtOrLe (a := T) (b := VV w1) with q | q
     ·rcases ratLtOrLe (a := VV w1) (b := B) with r | r
      ·exact absurd ⟨q, r⟩ in1
      ·exact .inr r
     ·exact .inl q
    have side : ∀ {c : Rat}, (c <= T ∨ B <= c) -> ((VV t <= c /\ VV b <= c) ∨ (c <= VV t /\ c <= VV b)) := by
     intro c hq
     rw [hT, hB]
     rcases hq with q | q
     ·exact .inr ⟨q, Rat.le_trans q (Rat.le_of_lt hlt)⟩
     ·exact .inl ⟨Rat.le_trans (Rat.le_of_lt hlt) q, q⟩
    refine ⟨[t, b], by rw [hc]; exact sort2 s1, by rw [hc], by simp, by simp, hT, hB, ?_, ?_⟩
    ·intro i hi
     obtain rfl : i = 0 := by simp at hi; omega
     exact mk (p := t) (q := b) ht hb (by rw [hT]; exact Rat.le_refl) (by rw [hT, hB]; exact Rat.le_of_lt hlt) (by rw [hB]; exact Rat.le_refl) (side out0) (side out1)
    ·intro i hi
     have hi' : i < 2 := by simpa using hi
     rcases (by omega : i = 0 ∨ i = 1) with rfl | rfl
     ·exact ⟨by rw [<- hT]; exact Rat.le_refl, by show VV t <= B; rw [hT]; exact Rat.le_of_lt hlt⟩
     ·exact ⟨by show T <= VV b; rw [hB]; exact Rat.le_of_lt hlt, by rw [<- hB]; exact Rat.le_refl⟩
theorem Dn.down {sg : Nat} {g : Rat} (hsg : F64 sg) (hsgv : VV sg = g) (hg : ab g <= 1) {s : Nat} (hs : F64 s) (hs2 : ab (VV s) <= 1000000) :
  (fge64 (top64 y0 Y) (bot64 y1 Y) = false -> DownOk sg x0 y0 x1 y1 X Y s) /\ F64 (downW sg x0 y0 x1 y1 X Y s) /\
   ab (VV (downW sg x0 y0 x1 y1 X Y s) - (VV s + g * (64 * (((ph Y y1 - ph Y y0 : Int) : Rat) * mE X Y x0 y0 x1 y1)))) <= 1 / 12000 := by
 have hb0 := h.b; have hd0 := h.d; have hlt0 := h.lt; have hY := h.hY; have hXb := h.hX
 have p0 := ph_cases Y y0
 have p1 := ph_cases Y y1
 have hTb : -65536 <= imax y0 (64 * (Y : Int)) /\ imax y0 (64 * (Y : Int)) <= 131072 := by unfold imax; split <;> omega
 have hBb : -65536 <= imin y1 (64 * (Y : Int) + 64) /\ imin y1 (64 * (Y : Int) + 64) <= 131072 := by unfold imin; split <;> omega
 obtain ⟨ht, hT⟩ := int64w (n := imax y0 (64 * (Y : Int))) (by omega) (by omega)
 obtain ⟨hb, hB⟩ := int64w (n := imin y1 (64 * (Y : Int) + 64)) (by omega) (by omega)
 have hge := fge64_iff ht hb
 rw [hT, hB] at hge
 cases hc : fge64 (top64 y0 Y) (bot64 y1 Y)
 ·have hlt : imax y0 (64 * (Y : Int)) < imin y1 (64 * (Y : Int) + 64) := by
   rcases Int.lt_or_le (imax y0 (64 * (Y : Int))) (imin y1 (64 * (Y : Int) + 64)) with q | q
   ·exact q
   ·have := hge.2 (castLe q)
    rw [hc] at this
    cases this
  have eT : imax y0 (64 * (Y : Int)) = 64 * (Y : Int) + ph Y y0 := by
   have h1 : imax y0 (64 * (Y : Int)) < 64 * (Y : Int) + 64 := by unfold imin at hlt; split at hlt <;> omega
   unfold imax at h1 ⊢
   split at h1 <;> split <;> omega
  have eB : imin y1 (64 * (Y : Int) + 64) = 64 * (Y : Int) + ph Y y1 := by
   have h1 : 64 * (Y : Int) < imin y1 (64 * (Y : Int) + 64) := by unfold imax at hlt; split at hlt <;> omega
   unfold imin at h1 ⊢
   split at h1 <;> split <;> omega
  have hy0 : (y0 : Rat) <= ((imax y0 (64 * (Y : Int)) : Int) : Rat) := castLe (by unfold imax; split <;> omega)
  have hy1 : ((imin y1 (64 * (Y : Int) + 64) : Int) : Rat) <= y1 := castLe (by unfold imin; split <;> omega)
  obtain ⟨L, sh⟩ := h.shape (T := ((imax y0 (64 * (Y : Int)) : Int) : Rat)) (B := ((imin y1 (64 * (Y : Int) + 64) : Int) : Rat)) ht hT hb hB (castLt hlt) hy0 hy1
  have h64 := castLe (show imin y1 (64 * (Y : Int) + 64) <= imax y0 (64 * (Y : Int)) + 64 by omega)
  push_cast at h64
  have hfar : ∀ i, i < L.length -> 0 <= VV (L.getD i 0) - VV (L.getD 0 0) /\ VV (L.getD i 0) - VV (L.getD 0 0) <= 64 := by
   intro i hi
   obtain ⟨a, b⟩ := sh.far i hi
   rw [sh.first]
   generalize VV (L.getD i 0) = z at *
   clear hge ht hb hs hs2 hsg hsgv hT hB sh
   constructor <;> grind
  have two := sh.two
  obtain ⟨k1, k2, k3⟩ := h.sums hsg hsgv hg hs hs2 sh.ten sh.fit hfar (L.length - 1) (by omega)
  have hdw : downW sg x0 y0 x1 y1 X Y s = (ec64 sg x0 y0 x1 y1 X).sum L s (L.length - 1) := by rw [downW, if_neg (by rw [hc]; decide), sh.sorted, sh.len]
  refine ⟨fun _ => ⟨h.slope.1, fun hx => (h.cut hx (by omega) (by omega)).1, fun hx => (h.cut hx (by omega) (by omega)).1, ?_⟩, by rw [hdw]; exact k2, ?_⟩
  ·intro i hi
   rw [sh.len] at hi
   rw [sh.sorted]
   exact k1 i (by omega)
  ·rw [hdw]
   rw [sh.last, sh.first] at k3
   have em : mE X Y x0 y0 x1 y1 = mean (uE x0 y0 x1 y1 X ((imax y0 (64 * (Y : Int)) : Int) : Rat)) (uE x0 y0 x1 y1 X ((imin y1 (64 * (Y : Int) + 64) : Int) : Rat)) := by unfold mE; rw [eT, eB]
   rw [em]
   have eph : ((ph Y y1 - ph Y y0 : Int) : Rat) = ((imin y1 (64 * (Y : Int) + 64) : Int) : Rat) - ((imax y0 (64 * (Y : Int)) : Int) : Rat) := by rw [eT, eB]; push_cast; grind
   rw [eph]
   have hten : ((L.length - 1 : Nat) : Rat) <= 10 := by
    have : L.length - 1 <= 10 := by have := sh.ten; omega
    exact_mod_cast this
   refine Rat.le_trans k3 ?_
   generalize ((L.length - 1 : Nat) : Rat) = z at *
   generalize ((imin y1 (64 * (Y : Int) + 64) : Int) : Rat) = b at *
   generalize ((imax y0 (64 * (Y : Int)) : Int) : Rat) = a at *
   clear k1 k2 k3 hdw hfar hs hs2 hsg hsgv hT hB sh em eph hge
   grind
 ·have hq : imin y1 (64 * (Y : Int) + 64) <= imax y0 (64 * (Y : Int)) := Rat.intCast_le_intCast.1 (hge.1 hc)
  have hz : ph Y y1 - ph Y y0 = 0 := by
   unfold imin imax at hq
   split at hq <;> split at hq <;> omega
  have hdw : downW sg x0 y0 x1 y1 X Y s = s := by rw [downW, if_pos hc]
  refine ⟨fun hf => by (cases hf), by rw [hdw]; exact hs, ?_⟩
  rw [hdw, hz]
  have e0 : ((0 : Int) : Rat) = 0 := rfl
  rw [e0]
  generalize VV s = a
  generalize mE X Y x0 y0 x1 y1 = m
  have e : a - (a + g * (64 * (0 * m))) = 0 := by grind
  rw [e, ab_of_nonneg Rat.le_refl]
  decide +kernel
end
def Edge16 (e : Edge) : Prop := (-65536 <= e.1.1 /\ e.1.1 <= 65536) /\ (-65536 <= e.1.2 /\ e.1.2 <= 65536) /\ (-65536 <= e.2.1 /\ e.2.1 <= 65536) /\ (-65536 <= e.2.2 /\ e.2.2 <= 65536)
theorem edge_num {e : Edge} {X Y : Nat} (he : Edge16 e) (hX : X <= 600) (hY : Y <= 600) {s : Nat} (hs : F64 s) (hs2 : ab (VV s) <= 1000000) :
  EdgeWOk e X Y s /\ F64 (edgeW e X Y s) /\ ab (VV (edgeW e X Y s) - (VV s + 4096 * areaE X Y e)) <= 1 / 12000 := by
 obtain ⟨⟨a1, a2⟩, ⟨b1, b2⟩⟩ := e
 obtain ⟨h1, h2, h3, h4⟩ := he
 simp only at h1 h2 h3 h4
 unfold EdgeWOk edgeW areaE mEdge dph
 simp only
 rcases Int.lt_trichotomy a2 b2 with h | h | h
 ·have hd : Dn a1 a2 b1 b2 X Y := ⟨h1, h2, h3, h4, h, hX, hY⟩
  obtain ⟨k1, k2, k3⟩ := hd.down one64.1 one64.2 (by rw [ab_of_nonneg (by decide +kernel)]; exact Rat.le_refl) hs hs2
  rw [if_neg (by omega), if_pos h]
  refine ⟨⟨fun hc => by omega, fun _ => k1⟩, k2, ?_⟩
  generalize VV (downW 4607182418800017408 a1 a2 b1 b2 X Y s) = z at *
  generalize VV s = y at *
  generalize mE X Y a1 a2 b1 b2 = m at *
  generalize ((ph Y b2 - ph Y a2 : Int) : Rat) = d at *
  have e : (1 : Rat) * (64 * (d * m)) = 4096 * (d / 64 * m) := by grind
  rw [e] at k3
  exact k3
 ·subst h
  obtain ⟨ht, hT⟩ := int64w (n := imax a2 (64 * (Y : Int))) (by unfold imax; split <;> omega) (by unfold imax; split <;> omega)
  obtain ⟨hb, hB⟩ := int64w (n := imin a2 (64 * (Y : Int) + 64)) (by unfold imin; split <;> omega) (by unfold imin; split <;> omega)
  have hge : fge64 (top64 a2 Y) (bot64 a2 Y) = true := by
   rw [fge64_iff ht hb, hT, hB]
   exact castLe (by unfold imin imax; split <;> split <;> omega)
  have hdw : downW 4607182418800017408 a1 a2 b1 a2 X Y s = s := by rw [downW, if_pos hge]
  rw [if_neg (by omega), hdw, Int.sub_self]
  refine ⟨⟨fun hc => by omega, fun _ hf => by rw [hge] at hf; cases hf⟩, hs, ?_⟩
  have e0 : ((0 : Int) : Rat) = 0 := rfl
  rw [e0]
  generalize VV s = a
  generalize (if a2 < a2 then mE X Y a1 a2 b1 a2 else mE X Y b1 a2 a1 a2) = m
  have e : a - (a + 4096 * (0 / 64 * m)) = 0 := by grind
  rw [e, ab_of_nonneg Rat.le_refl]
  decide +kernel
 ·have hd : Dn b1 b2 a1 a2 X Y := ⟨h3, h4, h1, h2, h, hX, hY⟩
  obtain ⟨k1, k2, k3⟩ := hd.down mone64.1 mone64.2 (by rw [ab_neg, ab_of_nonneg (by decide +kernel)]; exact Rat.le_refl) hs hs2
  rw [if_pos h, if_neg (by omega)]
  refine ⟨⟨fun _ => k1, fun hc => by omega⟩, k2, ?_⟩
  have ed : ((ph Y b2 - ph Y a2 : Int) : Rat) = -((ph Y a2 - ph Y b2 : Int) : Rat) := by push_cast; grind
  rw [ed]
  generalize VV (downW 13830554455654793216 b1 b2 a1 a2 X Y s) = z at *
  generalize VV s = y at *
  generalize mE X Y b1 b2 a1 a2 = m at *
  generalize ((ph Y a2 - ph Y b2 : Int) : Rat) = d at *
  have e : (-1 : Rat) * (64 * (d * m)) = 4096 * (-d / 64 * m) := by grind
  rw [e] at k3
  exact k3
theorem areaE_bd (X Y : Nat) (e : Pt × Pt) : ab (areaE X Y e) <= 1 := by
 unfold areaE
 have hd := dph_bd Y e
 have a1 := castLe hd.1
 have a2 := castLe hd.2
 push_cast at a1 a2
 have hm : 0 <= mEdge X Y e /\ mEdge X Y e <= 1 := by
  unfold mEdge mE
  split <;> exact mean_bd _ _
 have k := ab_mul_le (x := ((dph Y e : Int) : Rat) / 64) (y := mEdge X Y e) (a := 1) (b := 1) (ab_le (by grind) (by grind)) (ab_le (by grind) (by grind))
 grind
theorem sum_rat {z y a r b : Rat} {n : Nat} (h1 : ab (z - (y + 4096 * a)) <= 1 / 12000) (h2 : ab (y - (b + 4096 * r)) <= n * (1 / 12000)) : ab (z - (b + 4096 * (a + r))) <= (n + 1 : Nat) * (1 / 12000) := by
 have e : z - (b + 4096 * (a + r)) = (z - (y + 4096 * a)) + (y - (b + 4096 * r)) := by grind
 rw [e]
 have := ab_add_le (z - (y + 4096 * a)) (y - (b + 4096 * r))
 push_cast
 grind
theorem size_sum {y r b : Rat} {n : Nat} (hn : n <= 200) (hr : ab r <= n) (hb : ab b <= 1) (h2 : ab (y - (b + 4096 * r)) <= n * (1 / 12000)) : ab y <= 1000000 := by
 have hn' : (n : Rat) <= 200 := by exact_mod_cast hn
 have k := ab_mul_le (show ab (4096 : Rat) <= 4096 by rw [ab_of_nonneg (by grind)]; exact Rat.le_refl) hr
 exact near_ab h2 (ab_add_le2 hb k (e := 820001) (by grind)) (by grind)
theorem areaR_bd (X Y : Nat) : ∀ (es : List Edge), ab (areaR es X Y) <= es.length
 | [] => by
  have e : areaR [] X Y = 0 := rfl
  rw [e, ab_of_nonneg Rat.le_refl]
  exact Rat.le_refl
 | a :: t => by
  have e : areaR (a :: t) X Y = areaE X Y a + areaR t X Y := rfl
  rw [e]
  have h1 := areaE_bd X Y a
  have h2 := areaR_bd X Y t
  have h3 := ab_add_le2 h1 h2 Rat.le_refl
  simp only [List.length_cons]
  push_cast
  grind
theorem areaR_snoc (X Y : Nat) (l : List Edge) (e : Edge) : areaR (l ++ [e]) X Y = areaE X Y e + areaR l X Y := by
 unfold areaR
 rw [sumE_append, sumE, sumE]
 grind
theorem areaSum_num {es : List Edge} {X Y : Nat} (he : ∀ e ∈ es, Edge16 e) (hX : X <= 600) (hY : Y <= 600) (hn : es.length <= 200) :
  ∀ k, k <= es.length -> F64 (areaSum (es.take k) X Y 0) /\ ab (VV (areaSum (es.take k) X Y 0) - (0 + 4096 * areaR (es.take k) X Y)) <= k * (1 / 12000) /\ ∀ j, (hj : j < k) -> (hj2 : j < es.length) -> EdgeWOk es[j] X Y (areaSum (es.take j) X Y 0)
 | 0, _ => by
  have e1 : areaSum (es.take 0) X Y 0 = 0 := by simp [areaSum]
  have e2 : areaR (es.take 0) X Y = 0 := by simp [areaR, sumE]
  rw [e1, e2, zero64.2]
  refine ⟨zero64.1, ?_, fun j hj => by omega⟩
  have e3 : (0 : Rat) - (0 + 4096 * 0) = 0 := by grind
  have e4 : ((0 : Nat) : Rat) = 0 := rfl
  rw [e3, e4, ab_of_nonneg Rat.le_refl]
  grind
 | k + 1, hk => by
  obtain ⟨i1, i2, i3⟩ := areaSum_num he hX hY hn k (by omega)
  have hlt : k < es.length := by omega
  have et : es.take (k + 1) = es.take k ++ [es[k]] := List.take_succ_eq_append_getElem hlt
  have hl : (es.take k).length = k := by rw [List.length_take]; omega
  have rb := areaR_bd X Y (es.take k)
  rw [hl] at rb
  have sz := size_sum (by omega) rb (by rw [ab_of_nonneg Rat.le_refl]; decide +kernel) i2
  obtain ⟨n1, n2, n3⟩ := edge_num (he _ (List.getElem_mem hlt)) hX hY i1 sz
  rw [et, areaSum_snoc, areaR_snoc]
  refine ⟨n2, sum_rat n3 i2, fun j hj hj2 => ?_⟩
  rcases Nat.lt_or_ge j k with hc | hc
  ·exact i3 j hc hj2
  ·obtain rfl : j = k := by omega
   exact n1
theorem quot_rat {z w r : Rat} {n : Nat} (hn : n <= 200) (hr : ab r <= n) (h : ab (z - (0 + 4096 * r)) <= n * (1 / 12000)) (hw : ab (w - z / 4096) <= 300 / 9007199254740992 + 1 / 1000000000000000000000000000000) : ab (w - r) <= n * (1 / 49000000) + 1 / 1000000000 := by
 have hn' : (n : Rat) <= 200 := by exact_mod_cast hn
 have hn0 : (0 : Rat) <= n := by exact_mod_cast Nat.zero_le n
 obtain ⟨a, b⟩ := ab_iff.1 h
 obtain ⟨c, d⟩ := ab_iff.1 hw
 exact ab_le (by grind) (by grind)
theorem quot_size {z r : Rat} {n : Nat} (hn : n <= 200) (hr : ab r <= n) (h : ab (z - (0 + 4096 * r)) <= n * (1 / 12000)) : ab (z / 4096) <= 300 /\ ab z <= p2 1021 * ab 4096 := by
 have hn' : (n : Rat) <= 200 := by exact_mod_cast hn
 have h1 : (1000000000000000000000000000000 : Rat) <= p2 1021 := big1021 Rat.le_refl
 have e : ab (4096 : Rat) = 4096 := ab_of_nonneg (by grind)
 obtain ⟨a, b⟩ := ab_iff.1 h
 obtain ⟨c, d⟩ := ab_iff.1 hr
 rw [e]
 exact ⟨ab_le (by grind) (by grind), ab_le (by grind) (by grind)⟩
theorem area_num {es : List Edge} {X Y : Nat} (he : ∀ e ∈ es, Edge16 e) (hX : X <= 600) (hY : Y <= 600) (hn : es.length <= 200) :
  AreaOk es X Y /\ F64 (areaW es X Y) /\ ab (VV (areaW es X Y) - areaR es X Y) <= es.length * (1 / 49000000) + 1 / 1000000000 := by
 obtain ⟨i1, i2, i3⟩ := areaSum_num he hX hY hn es.length (Nat.le_refl _)
 rw [List.take_of_length_le (Nat.le_refl _)] at i1 i2
 have rb := areaR_bd X Y es
 obtain ⟨j1, j2⟩ := int64w (n := 4096) (by omega) (by omega)
 have j2' : VV (floatOfInt .f64 4096) = 4096 := by rw [j2]; rfl
 obtain ⟨q1, q2⟩ := quot_size hn rb i2
 obtain ⟨k1, k2⟩ := fquo64_ok i1 j1 (by rw [j2']; decide) (by rw [j2']; exact q2)
 rw [j2'] at k2
 exact ⟨⟨fun k hk => i3 k hk hk, k1⟩, k2.fin, quot_rat hn rb i2 (k2.near2 q1)⟩
theorem fneg64_ok {a : Nat} (ha : F64 a) : F64 (fneg64 a) /\ VV (fneg64 a) = -VV a := by
 obtain ⟨s, m, i, ea⟩ := ha
 have hr : Ieee.double.read (fneg64 a) = .number (!s) m i := by
  have e : fneg64 a = a ^^^ 9223372036854775808 := rfl
  have hsw : Ieee.double.signWeight = 9223372036854775808 := by decide
  have hmod : (a ^^^ 9223372036854775808) % 9223372036854775808 = a % 9223372036854775808 := by
   have := Nat.xor_mod_two_pow (a := a) (b := 9223372036854775808) (n := 63)
   simpa using this
  have hdiv : (a ^^^ 9223372036854775808) / 9223372036854775808 = (a / 9223372036854775808) ^^^ 1 := by
   have := Nat.xor_div_two_pow (a := a) (b := 9223372036854775808) (n := 63)
   simpa using this
  have hpar : ((a / 9223372036854775808) ^^^ 1) % 2 = 1 - a / 9223372036854775808 % 2 := by
   have := Nat.xor_mod_two_pow (a := a / 9223372036854775808) (b := 1) (n := 1)
   simp only [Nat.pow_one] at this
   rw [this]
   rcases Nat.mod_two_eq_zero_or_one (a / 9223372036854775808) with h | h <;> rw [h] <;> rfl
  rw [e]
  unfold Ieee.Format.read at ea ⊢
  rw [hsw] at ea ⊢
  simp only at ea ⊢
  rw [hmod, hdiv, hpar]
  have hs2 : (1 - a / 9223372036854775808 % 2 == 1) = !(a / 9223372036854775808 % 2 == 1) := by
   rcases Nat.mod_two_eq_zero_or_one (a / 9223372036854775808) with h | h <;> rw [h] <;> rfl
  rw [hs2]
  split at ea
  ·rename_i hc
   rw [if_pos hc]
   injection ea with h1 h2 h3
   rw [h1, h2, h3]
  ·rename_i hc
   rw [if_neg hc]
   split at ea
   ·rename_i hc2
    rw [if_pos hc2]
    injection ea with h1 h2 h3
    rw [h1, h2, h3]
   ·split at ea <;> cases ea
 obtain ⟨f1, f2⟩ := read_VV hr
 refine ⟨f1, ?_⟩
 rw [f2, (read_VV ea).2]
 cases s <;> simp [sgn] <;> grind
theorem c255d : F64 4643176031446892544 /\ VV 4643176031446892544 = 255 := by
 obtain ⟨h1, h2⟩ := read_VV (a := 4643176031446892544) (s := false) (m := 8972014882652160) (e := -45) (by decide)
 refine ⟨h1, ?_⟩
 rw [h2]
 have := p2_neg 45
 simp only [sgn]
 push_cast at this ⊢
 grind
def capR (a : Rat) : Rat := if 1 < ab a then 1 else ab a
theorem absmax {a : Nat} (ha : F64 a) : F64 (fmax64 a (fneg64 a)) /\ VV (fmax64 a (fneg64 a)) = ab (VV a) := by
 obtain ⟨n1, n2⟩ := fneg64_ok ha
 obtain ⟨m1, m2⟩ := fmax64_val ha n1
 refine ⟨m1, ?_⟩
 rw [m2, n2]
 unfold Flt.ab
 split <;> split <;> grind
theorem near_rat {A b p d F : Rat} (h0 : 0 <= capR A) (h1 : capR A <= 1) (hb : 0 <= b) (hb1 : b <= 255) (hp : ab (p - 255 * capR A) <= 255 / 9007199254740992 + 1 / 1000000000000000000000000000000) (hd : ab (d - (p - b)) <= 600 / 9007199254740992 + 1 / 1000000000000000000000000000000) (hF : ab (255 * capR A - b) + 1 / 1000000000000 <= F) : ab d <= F := by
 obtain ⟨p1, p2⟩ := ab_iff.1 hp
 obtain ⟨d1, d2⟩ := ab_iff.1 hd
 have k1 := le_ab (255 * capR A - b)
 have k2 := neg_le_ab (255 * capR A - b)
 exact ab_le (by grind) (by grind)
theorem cap_bd (a : Rat) : 0 <= capR a /\ capR a <= 1 := by
 unfold capR
 have := ab_nonneg a
 split <;> grind
theorem near_num {b : Int} {area far : Nat} (hb : 0 <= b) (hb1 : b <= 255) (ha : F64 area) (hf : F64 far) (h : ab (255 * capR (VV area) - b) + 1 / 1000000000000 <= VV far) : CloseOk b area far /\ closeB b area far = true := by
 obtain ⟨m1, m2⟩ := absmax ha
 obtain ⟨o1, o2⟩ := one64
 obtain ⟨n1, n2⟩ := fmin64_val m1 o1
 have n3 : VV (fmin64 (fmax64 area (fneg64 area)) 4607182418800017408) = capR (VV area) := by rw [n2, m2, o2]; rfl
 obtain ⟨c1, c2⟩ := c255d
 have cb := cap_bd (VV area)
 obtain ⟨p1, p2, p3⟩ := mul64 c1 n1 (M := 255) (by rw [c2, n3]; refine ab_mul_le2 (c := 255) (d := 1) ?_ (ab_pos_le cb.1 cb.2) ?_ <;> first | decide +kernel | exact ab_pos_le (by decide +kernel) Rat.le_refl) (by decide +kernel)
 rw [c2, n3] at p3
 obtain ⟨i1, i2⟩ := int64w (n := b) (by omega) (by omega)
 have hB := castLe hb
 have hB1 := castLe hb1
 have e0 : ((0 : Int) : Rat) = 0 := rfl
 have e1 : ((255 : Int) : Rat) = 255 := rfl
 rw [e0] at hB
 rw [e1] at hB1
 have pab : ab (VV (fop64 .mul 4643176031446892544 (fmin64 (fmax64 area (fneg64 area)) 4607182418800017408))) <= 256 := by
  refine near_ab p3 (c := 255) (ab_mul_le2 (c := 255) (d := 1) ?_ (ab_pos_le cb.1 cb.2) ?_) ?_ <;> first | decide +kernel | exact ab_pos_le (by decide +kernel) Rat.le_refl
 obtain ⟨d1, d2, d3⟩ := sub64 p2 i1 (M := 600) (by rw [i2]; have := ab_sub_le (VV (fop64 .mul 4643176031446892544 (fmin64 (fmax64 area (fneg64 area)) 4607182418800017408))) (b : Rat); have k := ab_pos_le hB hB1; generalize VV (fop64 .mul 4643176031446892544 (fmin64 (fmax64 area (fneg64 area)) 4607182418800017408)) = z at *; clear p1 p2 p3 n1 n2 n3 m1 m2 o1 o2 c1 c2; grind) (by decide +kernel)
 rw [i2] at d3
 have hD : closeD b area = fop64 .sub (fop64 .mul 4643176031446892544 (fmin64 (fmax64 area (fneg64 area)) 4607182418800017408)) (floatOfInt .f64 b) := rfl
 rw [<- hD] at d2 d3
 have hdab := near_rat cb.1 cb.2 hB hB1 p3 d3 h
 obtain ⟨x1, x2⟩ := absmax d2
 refine ⟨⟨cmp64 ha (fneg64_ok ha).1, cmp64 m1 o1, p1, d1, cmp64 d2 (fneg64_ok d2).1⟩, ?_⟩
 unfold closeB
 rw [order64 x1 hf, x2]
 generalize ab (VV (closeD b area)) = u at *
 by_cases h1 : u < VV far
 ·rw [if_pos h1]; rfl
 ·have h2 : u = VV far := by clear p1 p2 p3 n1 n2 n3 m1 m2 o1 o2 c1 c2 d1 d2 d3; grind
  rw [if_neg h1, if_pos h2]; rfl
end Go.Proofs.Ytmgcbodlolnheaa
