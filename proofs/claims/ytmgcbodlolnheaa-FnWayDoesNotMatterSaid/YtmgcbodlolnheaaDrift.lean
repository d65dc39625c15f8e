/-
  'laws.drift' and 'laws.alike': numbers and contracts.
-/
import Derived.Test.YtmgcbodlolnheaaNearLaw
namespace Go.Proofs.Ytmgcbodlolnheaa
open Flt
open Go.ChangeShapes Go.WideShapes Go.ChangeAt Go.RowKit Go.Deep
set_option linter.unusedVariables false

/-! ### numbers -/
theorem R64.ofIntEq {x : Rat} {r : Nat} (h : R64 x r) {n : Int} (hx : x = n) (h1 : -4503599627370496 ≤ n) (h2 : n ≤ 4503599627370496) : VV r = n := by
  have hr : Rep Ieee.double x := ⟨n, 0, by rw [p2_zero, hx, Rat.mul_one], by rw [binade_double]; omega, by rw [binade_double]; omega, by rw [least_double]; decide⟩
  have := Rounds.exact h hr
  rw [hx] at this
  exact this
theorem R64.geInt {x : Rat} {r : Nat} (h : R64 x r) {n : Int} (hx : (n : Rat) ≤ x) (h1 : -4503599627370496 ≤ n) (h2 : n ≤ 4503599627370496) : (n : Rat) ≤ VV r :=
  Rounds.dn h _ ⟨n, 0, by rw [p2_zero, Rat.mul_one], by rw [binade_double]; omega, by rw [binade_double]; omega, by rw [least_double]; decide⟩ hx
theorem c4d : F64 4616189618054758400 ∧ VV 4616189618054758400 = 4 := by
  obtain ⟨h1, h2⟩ := read_VV (a := 4616189618054758400) (s := false) (m := 4503599627370496) (e := -50) (by decide)
  refine ⟨h1, ?_⟩
  rw [h2]
  have := p2_neg 50
  simp only [sgn]
  push_cast at this ⊢
  grind
theorem c100d : F64 4636737291354636288 ∧ VV 4636737291354636288 = 100 := by
  obtain ⟨h1, h2⟩ := read_VV (a := 4636737291354636288) (s := false) (m := 7036874417766400) (e := -46) (by decide)
  refine ⟨h1, ?_⟩
  rw [h2]
  have := p2_neg 46
  simp only [sgn]
  push_cast at this ⊢
  grind
/-- The float64 cut towards zero is an int. -/
def Iok64i (a : Nat) : Prop := (floatToIntVal .f64 a .i64).isSome = true
def fint64i (a : Nat) : Int := (floatToIntVal .f64 a .i64).getD 0
theorem fint64i_ok {a : Nat} (ha : F64 a) (h1 : -1000000000 ≤ truncR (VV a)) (h2 : truncR (VV a) ≤ 1000000000) : Iok64i a ∧ fint64i a = truncR (VV a) := by
  have h : (FloatKind.f64.decode a).toInt .zero = some (truncR (VV a)) := toInt_val (f := Ieee.double) ha (way := .zero) (by decide)
  have e : floatToIntVal .f64 a .i64 = some (truncR (VV a)) := by
    unfold floatToIntVal
    rw [h]
    simp only [show IntKind.i64.min = -9223372036854775808 by decide, show IntKind.i64.max = 9223372036854775807 by decide]
    rw [if_pos ⟨by omega, by omega⟩]
  unfold Iok64i fint64i
  rw [e]
  exact ⟨rfl, rfl⟩
/-- 'laws.drift'. -/
def driftW (es : List (Pt × Pt)) : Nat := fop64 .add 4611686018427387904 (fop64 .quo (fop64 .sub (slackW es) 4616189618054758400) 4636737291354636288)
structure DriftOk (es : List (Pt × Pt)) : Prop where
  o1 : Fok64 .sub (slackW es) 4616189618054758400
  o2 : Fok64 .quo (fop64 .sub (slackW es) 4616189618054758400) 4636737291354636288
  o3 : Fok64 .add 4611686018427387904 (fop64 .quo (fop64 .sub (slackW es) 4616189618054758400) 4636737291354636288)
theorem drift_num {es : List (Pt × Pt)} (h : ∀ e ∈ es, Edge17 e) (hn : es.length ≤ 200) : DriftOk es ∧ F64 (driftW es) ∧
    ab (VV (driftW es) - (2 + (rowsAll es 0 : Rat) * es.length / 100)) ≤ 1 / 100000000000 ∧ ((2 + rowsAll es 0 * es.length / 100 : Int) : Rat) ≤ VV (driftW es) := by
  obtain ⟨s1, s2⟩ := slack_val h hn
  obtain ⟨r0, r1⟩ := rowsAll_bd h
  obtain ⟨M, hM⟩ : ∃ M : Int, M = rowsAll es 0 * es.length := ⟨_, rfl⟩
  have hM0 : 0 ≤ M := by rw [hM]; exact Int.mul_nonneg r0 (by omega)
  have hM1 : M ≤ 105800 := by
    rw [hM]
    have a1 := Int.mul_le_mul_of_nonneg_right r1 (show (0 : Int) ≤ es.length by omega)
    omega
  have hMR : (rowsAll es 0 : Rat) * es.length = (M : Rat) := by rw [hM]; push_cast; rfl
  rw [hMR] at s2 ⊢
  rw [← hM]
  have hc0 := castLe hM0
  have hc1 := castLe hM1
  rw [cast_zero] at hc0
  push_cast at hc1
  obtain ⟨c1, c2⟩ := c4d
  obtain ⟨d1, d2⟩ := c100d
  obtain ⟨t1, t2⟩ := two64
  have h1022 : (1000000000000000000000000000000 : Rat) ≤ p2 1022 := big1022 Rat.le_refl
  have h1021 : (1000000000000000000000000000000 : Rat) ≤ p2 1021 := big1021 Rat.le_refl
  obtain ⟨o1, q1⟩ := fsub64_ok s1 c1 (by rw [s2, c2]; exact Rat.le_trans (ab_le (y := 1000000) (by grind) (by grind)) (by grind))
  rw [s2, c2] at q1
  have e1 : 4 + (M : Rat) - 4 = (M : Rat) := by grind
  rw [e1] at q1
  have v1 := q1.ofIntEq rfl (by omega) (by omega)
  have hq1 := q1.fin
  obtain ⟨o2, q2⟩ := fquo64_ok hq1 d1 (by rw [d2]; decide) (by
    rw [d2, v1, ab_of_nonneg hc0]
    have e : ab (100 : Rat) = 100 := ab_of_nonneg (by grind)
    rw [e]
    grind)
  rw [v1, d2] at q2
  have hF := castLe (show 100 * (M / 100) ≤ M by omega)
  push_cast at hF
  have g2 := q2.geInt (n := M / 100) (by grind) (by omega) (by omega)
  have n2 := q2.near2 (M := 2000) (ab_le (by grind) (by grind))
  have hq2 := q2.fin
  obtain ⟨o3, q3⟩ := fadd64_ok t1 hq2 (by
    rw [t2]
    obtain ⟨a, b⟩ := ab_iff.1 n2
    exact Rat.le_trans (ab_le (y := 10000) (by grind) (by grind)) (by grind))
  rw [t2] at q3
  have g3 := q3.geInt (n := 2 + M / 100) (by push_cast; grind) (by omega) (by omega)
  have n3 := q3.near2 (M := 3000) (by obtain ⟨a, b⟩ := ab_iff.1 n2; exact ab_le (by grind) (by grind))
  refine ⟨⟨o1, o2, o3⟩, q3.fin, ?_, g3⟩
  obtain ⟨a, b⟩ := ab_iff.1 n2
  obtain ⟨a2, b2⟩ := ab_iff.1 n3
  unfold driftW
  exact ab_le (by grind) (by grind)
/-- The drift as an int. -/
theorem drift_int {es : List (Pt × Pt)} (h : ∀ e ∈ es, Edge17 e) (hn : es.length ≤ 200) : Iok64i (driftW es) ∧ fint64i (driftW es) = 2 + rowsAll es 0 * es.length / 100 := by
  obtain ⟨_, f, n, g⟩ := drift_num h hn
  obtain ⟨r0, r1⟩ := rowsAll_bd h
  obtain ⟨M, hM⟩ : ∃ M : Int, M = rowsAll es 0 * es.length := ⟨_, rfl⟩
  have hM0 : 0 ≤ M := by rw [hM]; exact Int.mul_nonneg r0 (by omega)
  have hM1 : M ≤ 105800 := by
    rw [hM]
    have a1 := Int.mul_le_mul_of_nonneg_right r1 (show (0 : Int) ≤ es.length by omega)
    omega
  have hMR : (rowsAll es 0 : Rat) * es.length = (M : Rat) := by rw [hM]; push_cast; rfl
  rw [hMR] at n
  rw [← hM] at g ⊢
  have hc0 := castLe (show 0 ≤ M / 100 by omega)
  rw [cast_zero] at hc0
  have hc := castLe (show M ≤ 100 * (M / 100) + 99 by omega)
  push_cast at hc g
  obtain ⟨a, b⟩ := ab_iff.1 n
  have hv0 : 0 ≤ VV (driftW es) := by grind
  obtain ⟨t1, t2, t3⟩ := truncR_pos_bd hv0
  have k1 : ((truncR (VV (driftW es)) : Int) : Rat) < ((3 + M / 100 : Int) : Rat) := by push_cast; grind
  have k2 : ((1 + M / 100 : Int) : Rat) < ((truncR (VV (driftW es)) : Int) : Rat) := by push_cast; grind
  have k3 := Rat.intCast_lt_intCast.1 k1
  have k4 := Rat.intCast_lt_intCast.1 k2
  obtain ⟨f1, f2⟩ := fint64i_ok f (by omega) (by omega)
  exact ⟨f1, by rw [f2]; omega⟩

/-! ### contracts -/
set_option maxRecDepth 100000 in
theorem drift_own (es : List Edge) (v : Value) {D : Nat} (w : World) (hlen : es.length ≤ 1000) (hp : w.ownsRow D 78 4 v es.length (edgeCells es)) (hnear : ∀ e ∈ es, Edge17 e) (hok : DriftOk es) :
    Calls Try.prog 31 #[v] w fun e w' => e = .returned (.float .f64 (driftW es)) ∧ Same w w' := by
  have HS := hid (slack_own es v w hlen hp hnear)
  obtain ⟨o1, o2, o3⟩ := hok
  unfold driftW
  clear hp hnear hlen
  generalize slackW es = s at *
  go_enter Try.func31, Try.ntmps31
  go_wp2_with fail
  refine HS.out.mono ?_
  rintro e w' ⟨rfl, t⟩
  have T := hid t
  clear t
  go_wp2_with fail
  go_ret
  exact ⟨rfl, T.out⟩
@[local go_sem ↓] theorem run_maxD {P : Program} {w : World} (ts : Array TypeId) (t : TypeId) (k k1 : IntKind) (x y : Int) : (Builtin.max_ ts t #[.int k x, .int k1 y]).run P w = .ok (.int k (imax x y)) w := by
  have e : imax x y = if x < y then y else x := by unfold imax; split <;> split <;> omega
  rw [e]
  simp [Builtin.max_, Builtin.max2]
set_option maxHeartbeats 2000000 in
set_option maxRecDepth 100000 in
theorem alike_any (a b : List Int) (da db n ca cb : Nat) (far : Int) (w : World) (hn1 : 1 ≤ n) (hn : n ≤ 65536) (hda : Blk w da 5 (byteCells a)) (hdb : Blk w db 5 (byteCells b)) (hla : a.length = n) (hlb : b.length = n)
    (hall : ∀ i, i < n → ∃ x y, a[i]? = some x ∧ b[i]? = some y ∧ (0 ≤ x ∧ x ≤ 255) ∧ (0 ≤ y ∧ y ≤ 255) ∧ x - y ≤ far ∧ y - x ≤ far) :
    Calls Try.prog 33 #[.slice (some ⟨da, 0, none⟩) n ca, .slice (some ⟨db, 0, none⟩) n cb, .int .i64 n, .int .i64 far] w fun e w' => e = .returned (.bool true) ∧ Same w w' := by
  have HA := hid hda
  have HB := hid hdb
  have HALL := hid hall
  have HLA := hid hla
  have HLB := hid hlb
  clear hda hdb hall hla hlb
  go_enter Try.func33, Try.ntmps33
  go_wp2_with fail
  go_loopw [23] (fun i wr => ∃ k : Nat, k ≤ n ∧ i = .int .i64 k ∧ Same w wr) (fun i _ => n - (intOf i).toNat)
  case atStart => exact ⟨0, Nat.zero_le _, rfl, Kept.refl _ _⟩
  case round =>
    obtain ⟨k, hk, rfl, hs⟩ := hrel
    have HSM := hid hs
    clear hs
    by_cases hlt : k < n
    · obtain ⟨x, y, f1, f2, ⟨x0, x1⟩, ⟨y0, y1⟩, d1, d2⟩ := HALL.out k hlt
      have c1 : wr.cell? ⟨da, k, none⟩ = some (.int .u8 x) := by
        rw [byte_cell (HSM.out.blk HA.out id) (by rw [HLA.out]; omega)]
        simp [List.getD, f1]
      have c2 : wr.cell? ⟨db, k, none⟩ = some (.int .u8 y) := by
        rw [byte_cell (HSM.out.blk HB.out id) (by rw [HLB.out]; omega)]
        simp [List.getD, f2]
      have hm : ¬ far < imax (x - y) (-(x - y)) := by unfold imax; split <;> omega
      have hki : (k : Int) < (n : Int) := by omega
      have w1 : IntKind.i64.wrap x = x := IntWalk.i64_in _ (by omega)
      have w2 : IntKind.i64.wrap y = y := IntWalk.i64_in _ (by omega)
      have w3 : IntKind.i64.wrap (x - y) = x - y := IntWalk.i64_in _ (by omega)
      have w4 : IntKind.i64.wrap (-(x - y)) = -(x - y) := IntWalk.i64_in _ (by omega)
      clear f1 f2 d1 d2
      go_wp2_with fail
      go_quiet (fail)
      go_wp2_with fail
      go_roundw
      case measure => simp [intOf]; omega
      case rel => exact ⟨k + 1, by omega, by go_num, HSM.out.drewN _⟩
    · obtain rfl : k = n := by omega
      go_wp2_with fail
      go_ret
      exact ⟨rfl, HSM.out⟩
end Go.Proofs.Ytmgcbodlolnheaa
