/-
  A row of a line in the floating kind goes well. No program is walked here.
-/
import Derived.Test.YtmgcbodlolnheaaFloBd
namespace Go.Proofs.Ytmgcbodlolnheaa
open Flt
set_option linter.unusedVariables false

theorem p2_15 : p2 15 = 32768 := by
  have : p2 ((15 : Nat) : Int) = ((2 ^ 15 : Nat) : Rat) := p2_nat 15
  simpa using this
theorem fone : Bd 1065353216 0 ∧ V 1065353216 = 1 := by
  obtain ⟨h1, h2⟩ := read_V (a := 1065353216) (s := false) (m := 8388608) (e := -23) (by decide)
  have hv : V 1065353216 = 1 := by
    rw [h2]
    have := p2_neg 23
    simp only [sgn]
    push_cast at this ⊢
    grind
  exact ⟨⟨h1, by rw [hv, p2_zero]; exact Rat.le_refl, by rw [hv, p2_zero]; grind⟩, hv⟩
theorem fhalf : Bd 1056964608 0 ∧ V 1056964608 = 1 / 2 := by
  obtain ⟨h1, h2⟩ := read_V (a := 1056964608) (s := false) (m := 8388608) (e := -24) (by decide)
  have hv : V 1056964608 = 1 / 2 := by
    rw [h2]
    have := p2_neg 24
    simp only [sgn]
    push_cast at this ⊢
    grind
  exact ⟨⟨h1, by rw [hv, p2_zero]; grind, by rw [hv, p2_zero]; grind⟩, hv⟩
theorem fmone : Bd 3212836864 0 ∧ V 3212836864 = -1 := by
  obtain ⟨h1, h2⟩ := read_V (a := 3212836864) (s := true) (m := 8388608) (e := -23) (by decide)
  have hv : V 3212836864 = -1 := by
    rw [h2]
    have := p2_neg 23
    simp only [sgn]
    push_cast at this ⊢
    grind
  exact ⟨⟨h1, by rw [hv, p2_zero]; grind, by rw [hv, p2_zero]; grind⟩, hv⟩
theorem f15 : Bd 1069547520 1 ∧ V 1069547520 = 3 / 2 := by
  obtain ⟨h1, h2⟩ := read_V (a := 1069547520) (s := false) (m := 12582912) (e := -23) (by decide)
  have hv : V 1069547520 = 3 / 2 := by
    rw [h2]
    have := p2_neg 23
    simp only [sgn]
    push_cast at this ⊢
    grind
  exact ⟨⟨h1, by rw [hv, p2_one]; grind, by rw [hv, p2_one]; grind⟩, hv⟩
theorem ofInt_bd {n : Int} {k : Nat} (hk : k ≤ 24) (h1 : -(2 ^ k : Nat) ≤ n) (h2 : n ≤ (2 ^ k : Nat)) : Bd (floatOfInt .f32 n) k ∧ V (floatOfInt .f32 n) = n := by
  have hp : (2 ^ k : Nat) ≤ 16777216 := Nat.pow_le_pow_right (n := 2) (by decide) hk
  obtain ⟨a1, a2⟩ := ofInt_any (n := n) (by omega) (by omega)
  refine ⟨Bd.of a1 ?_, a2⟩
  rw [a2, p2_nat]
  exact ab_int_le h2 h1

theorem flo_fhi {x xn : Nat} (hx : F32 x) (hn : F32 xn) : (flo x xn = x ∧ fhi x xn = xn ∧ V x ≤ V xn) ∨ (flo x xn = xn ∧ fhi x xn = x ∧ V xn ≤ V x) := by
  unfold flo fhi
  have h := fgt_iff hx hn
  by_cases hg : fgt x xn = true
  · rw [if_pos hg, if_pos hg]
    have := h.1 hg
    exact .inr ⟨rfl, rfl, by grind⟩
  · rw [if_neg hg, if_neg hg]
    have : ¬ V xn < V x := fun hc => hg (h.2 hc)
    exact .inl ⟨rfl, rfl, by grind⟩
theorem floor_bd {x : Rat} (h1 : -32768 ≤ x) (h2 : x ≤ 32768) : -32768 ≤ x.floor ∧ x.floor ≤ 32768 := by
  constructor
  · rw [Rat.le_floor_iff]
    push_cast
    exact h1
  · have h3 := Rat.floor_le x
    have h4 : (x.floor : Rat) ≤ ((32768 : Int) : Rat) := by push_cast; grind
    exact Rat.intCast_le_intCast.1 h4
theorem ceil_bd {x : Rat} (h1 : -32768 ≤ x) (h2 : x ≤ 32768) : -32768 ≤ ceilR x ∧ ceilR x ≤ 32768 := by
  have := floor_bd (x := -x) (by grind) (by grind)
  unfold ceilR
  omega
theorem ceil_near (x : Rat) : x ≤ ceilR x ∧ (ceilR x : Rat) < x + 1 := by
  have h1 := Rat.floor_le (-x)
  have h2 := Rat.lt_floor_add_one (-x)
  unfold ceilR
  push_cast at h2 ⊢
  constructor <;> grind
theorem floor_near (x : Rat) : (x.floor : Rat) ≤ x ∧ x < x.floor + 1 := by
  have h1 := Rat.floor_le x
  have h2 := Rat.lt_floor_add_one x
  push_cast at h2
  exact ⟨h1, h2⟩

/-- A place on a line. -/
structure Xs (x : Nat) : Prop where
  bd : Bd x 15
  grid : Grid (-48) (V x)
theorem Xs.rng {x : Nat} (h : Xs x) : -32768 ≤ V x ∧ V x ≤ 32768 := by
  have h1 := h.bd.hi
  have h2 := h.bd.lo
  rw [p2_15] at h1 h2
  exact ⟨h2, h1⟩
theorem Xs.fl {x : Nat} (h : Xs x) : FlOk x ∧ ffl x = (V x).floor ∧ -32768 ≤ ffl x ∧ ffl x ≤ 32768 := by
  obtain ⟨r1, r2⟩ := h.rng
  obtain ⟨f1, f2⟩ := floor_bd r1 r2
  obtain ⟨a, b⟩ := ffl_ok h.bd.fin (Rat.le_trans h.bd.ab (p2_mono (by decide))) (by omega) (by omega)
  exact ⟨a, b, by rw [b]; exact f1, by rw [b]; exact f2⟩
theorem Xs.ce {x : Nat} (h : Xs x) : CeOk x ∧ fce x = ceilR (V x) ∧ -32768 ≤ fce x ∧ fce x ≤ 32768 := by
  obtain ⟨r1, r2⟩ := h.rng
  obtain ⟨f1, f2⟩ := ceil_bd r1 r2
  obtain ⟨a, b⟩ := fce_ok h.bd.fin (Rat.le_trans h.bd.ab (p2_mono (by decide))) (by omega) (by omega)
  exact ⟨a, b, by rw [b]; exact f1, by rw [b]; exact f2⟩
theorem int15 {n : Int} (h1 : -32768 ≤ n) (h2 : n ≤ 32768) : Bd (floatOfInt .f32 n) 15 ∧ V (floatOfInt .f32 n) = n := ofInt_bd (k := 15) (by decide) (by omega) (by omega)
theorem Xs.frac {x : Nat} (h : Xs x) : Fok .sub x (floatOfInt .f32 (ffl x)) ∧ Bd (fop .sub x (floatOfInt .f32 (ffl x))) 0 := by
  obtain ⟨_, e, b1, b2⟩ := h.fl
  obtain ⟨i1, i2⟩ := int15 b1 b2
  have hx : Flt.ab (V x - V (floatOfInt .f32 (ffl x))) ≤ p2 0 := by
    rw [i2, e, p2_zero]
    obtain ⟨f1, f2⟩ := floor_near (V x)
    exact ab_le (by grind) (by grind)
  obtain ⟨q1, q2⟩ := fsub_ok h.bd.fin i1.fin (Rat.le_trans hx (p2_mono (by decide)))
  exact ⟨q1, q2.bd hx (by decide)⟩
theorem Xs.top {x : Nat} (h : Xs x) : Fok .sub x (floatOfInt .f32 (fce x)) ∧ Bd (fop .sub x (floatOfInt .f32 (fce x))) 0 := by
  obtain ⟨_, e, b1, b2⟩ := h.ce
  obtain ⟨i1, i2⟩ := int15 b1 b2
  have hx : Flt.ab (V x - V (floatOfInt .f32 (fce x))) ≤ p2 0 := by
    rw [i2, e, p2_zero]
    obtain ⟨f1, f2⟩ := ceil_near (V x)
    exact ab_le (by grind) (by grind)
  obtain ⟨q1, q2⟩ := fsub_ok h.bd.fin i1.fin (Rat.le_trans hx (p2_mono (by decide)))
  exact ⟨q1, q2.bd hx (by decide)⟩
/-- One by a width. -/
theorem quo_one {w : Nat} (hw : F32 w) (h : p2 (-48) ≤ V w) : Fok .quo 1065353216 w ∧ Bd (fop .quo 1065353216 w) 48 := by
  have hp := p2_pos (-48)
  have hw0 : 0 < V w := by grind
  have e48 : p2 48 * p2 (-48) = 1 := by rw [← p2_add]; exact p2_zero
  have e77 : p2 125 * p2 (-48) = p2 77 := by rw [← p2_add]; rfl
  have h77 : 1 ≤ p2 77 := by have := p2_mono (a := 0) (b := 77) (by decide); rwa [p2_zero] at this
  have h1 := Rat.mul_le_mul_of_nonneg_left h (Rat.le_of_lt (p2_pos 48))
  have h2 := Rat.mul_le_mul_of_nonneg_left h (Rat.le_of_lt (p2_pos 125))
  have a1 : Flt.ab 1 = 1 := by decide
  obtain ⟨q1, q2⟩ := fquo_ok fone.1.fin hw (by grind) (by rw [fone.2, ab_of_nonneg (Rat.le_of_lt hw0), a1]; grind)
  refine ⟨q1, q2.bd ?_ (by decide)⟩
  rw [fone.2, ab_div hw0, a1]
  refine Rat.le_of_mul_le_mul_right (c := V w) ?_ hw0
  rw [Rat.div_mul_cancel (by grind)]
  grind
theorem width {lo hi : Nat} (hl : Xs lo) (hh : Xs hi) (hlt : V lo < V hi) : Fok .sub hi lo ∧ F32 (fop .sub hi lo) ∧ p2 (-48) ≤ V (fop .sub hi lo) := by
  obtain ⟨q1, q2⟩ := Bd.sub hh.bd hl.bd
  have hx : Flt.ab (V hi - V lo) ≤ p2 126 := by
    have a := hh.rng; have b := hl.rng
    exact big126 (ab_le (by grind) (by grind))
  obtain ⟨_, r⟩ := fsub_ok hh.bd.fin hl.bd.fin hx
  have hg := (hh.grid.sub hl.grid).pos (by grind)
  have := r.ge (n := 1) (q := -48) (by rw [show ((1 : Int) : Rat) = 1 from rfl, Rat.one_mul]; exact hg) (by decide) (by decide) (by decide)
  rw [show ((1 : Int) : Rat) = 1 from rfl, Rat.one_mul] at this
  exact ⟨q1, r.fin, this⟩

theorem rowN_ok {x xn d lo : Nat} (hx : Xs x) (hn : Xs xn) (hl : Xs lo) (hd : Bd d 0) : FrowNOk x xn d lo ∧ ∀ W base, ∀ p ∈ frowN W base x xn d lo, Bd p.2 68 := by
  obtain ⟨_, _, b1, b2⟩ := hl.fl
  obtain ⟨i1, _⟩ := int15 b1 b2
  obtain ⟨q1, r1⟩ := Bd.add hx.bd hn.bd
  obtain ⟨q2, r2⟩ := Bd.mul fhalf.1 r1
  obtain ⟨q3, r3⟩ := Bd.sub r2 (i1.mono (by decide))
  obtain ⟨q4, r4⟩ := Bd.mul hd r3
  obtain ⟨q5, r5⟩ := Bd.sub (hd.mono (by decide)) r4
  refine ⟨⟨q1, q2, q3, q4, q5⟩, fun W base p hp => ?_⟩
  unfold frowN at hp
  simp only [List.mem_cons, List.not_mem_nil, or_false] at hp
  rcases hp with rfl | rfl
  · exact r5.mono (by decide)
  · exact r4.mono (by decide)
theorem rowT_ok {d lo hi : Nat} (hl : Xs lo) (hh : Xs hi) (hlt : V lo < V hi) (hd : Bd d 0) : FrowTOk d lo hi ∧ ∀ W base, ∀ p ∈ frowT W base d lo hi, Bd p.2 68 := by
  obtain ⟨q1, w1, w2⟩ := width hl hh hlt
  obtain ⟨q2, s⟩ := quo_one w1 w2
  obtain ⟨q3, h⟩ := Bd.mul fhalf.1 s
  obtain ⟨q4, lf⟩ := hl.frac
  obtain ⟨q5, om⟩ := Bd.sub fone.1 lf
  obtain ⟨q6, a1⟩ := Bd.mul h om
  obtain ⟨q7, a0⟩ := Bd.mul a1 om
  obtain ⟨q8, da0⟩ := Bd.mul hd a0
  obtain ⟨q9, t1⟩ := Bd.sub (fone.1.mono (m := 51) (by decide)) (a0.mono (m := 51) (by decide))
  obtain ⟨q10, hc⟩ := hh.top
  obtain ⟨q11, xf⟩ := Bd.add hc fone.1
  obtain ⟨q12, b1⟩ := Bd.mul h xf
  obtain ⟨q13, am⟩ := Bd.mul b1 xf
  obtain ⟨q14, t2⟩ := Bd.sub (t1.mono (m := 52) (by decide)) (am.mono (m := 52) (by decide))
  obtain ⟨q15, dt⟩ := Bd.mul hd t2
  obtain ⟨q16, dam⟩ := Bd.mul hd am
  refine ⟨⟨q1, q2, q3, q4, q5, q6, q7, q8, q9, q10, q11, q12, q13, q14, q15, q16⟩, fun W base p hp => ?_⟩
  unfold frowT at hp
  simp only [List.mem_cons, List.not_mem_nil, or_false] at hp
  rcases hp with rfl | rfl | rfl
  · exact da0.mono (by decide)
  · exact dt.mono (by decide)
  · exact dam.mono (by decide)
theorem mem_ffill {base W : Nat} {x0 : Int} {v : Nat} {p : Nat × Nat} : ∀ {j : Nat}, p ∈ ffill base W x0 v j → p.2 = v
  | 0, h => by simp [ffill] at h
  | j + 1, h => by
    rw [ffill, List.mem_append] at h
    rcases h with h | h
    · exact mem_ffill h
    · simp only [List.mem_singleton] at h
      rw [h]
theorem rowM_ok {d lo hi : Nat} (hl : Xs lo) (hh : Xs hi) (hlt : V lo < V hi) (hd : Bd d 0) : FrowMOk d lo hi ∧ ∀ W base N, ∀ p ∈ frowM W base d lo hi N, Bd p.2 68 := by
  obtain ⟨_, _, l1, l2⟩ := hl.fl
  obtain ⟨_, _, h1, h2⟩ := hh.ce
  obtain ⟨iN, _⟩ := ofInt_bd (n := fce hi - ffl lo - 3) (k := 17) (by decide) (by omega) (by omega)
  obtain ⟨q1, w1, w2⟩ := width hl hh hlt
  obtain ⟨q2, s⟩ := quo_one w1 w2
  obtain ⟨q3, h⟩ := Bd.mul fhalf.1 s
  obtain ⟨q4, lf⟩ := hl.frac
  obtain ⟨q5, om⟩ := Bd.sub fone.1 lf
  obtain ⟨q6, a1⟩ := Bd.mul h om
  obtain ⟨q7, a0⟩ := Bd.mul a1 om
  obtain ⟨q8, da0⟩ := Bd.mul hd a0
  obtain ⟨q9, l15⟩ := Bd.sub f15.1 (lf.mono (m := 1) (by decide))
  obtain ⟨q10, c1⟩ := Bd.mul s l15
  obtain ⟨q11, c2⟩ := Bd.sub c1 (a0.mono (m := 50) (by decide))
  obtain ⟨q12, c3⟩ := Bd.mul hd c2
  obtain ⟨q13, sN⟩ := Bd.mul s iN
  obtain ⟨q14, a2⟩ := Bd.add (c1.mono (m := 65) (by decide)) sN
  obtain ⟨q15, u1⟩ := Bd.sub (fone.1.mono (m := 66) (by decide)) a2
  obtain ⟨q16, hc⟩ := hh.top
  obtain ⟨q17, xf⟩ := Bd.add hc fone.1
  obtain ⟨q18, b1⟩ := Bd.mul h xf
  obtain ⟨q19, am⟩ := Bd.mul b1 xf
  obtain ⟨q20, u2⟩ := Bd.sub u1 (am.mono (m := 67) (by decide))
  obtain ⟨q21, u3⟩ := Bd.mul hd u2
  obtain ⟨q22, dam⟩ := Bd.mul hd am
  obtain ⟨q23, ds⟩ := Bd.mul hd s
  refine ⟨⟨q1, q2, q3, q4, q5, q6, q7, q8, q9, q10, q11, q12, q13, q14, q15, q16, q17, q18, q19, q20, q21, q22, q23⟩, fun W base N p hp => ?_⟩
  unfold frowM at hp
  simp only [List.mem_append, List.mem_cons, List.not_mem_nil, or_false] at hp
  rcases hp with ((rfl | rfl) | hp) | (rfl | rfl)
  · exact da0.mono (by decide)
  · exact c3.mono (by decide)
  · rw [mem_ffill hp]
    exact ds.mono (by decide)
  · exact u3.mono (by decide)
  · exact dam.mono (by decide)
/-- A row goes well. -/
theorem row_ok {x xn d : Nat} (hx : Xs x) (hn : Xs xn) (hd : Bd d 0) : FrowOk x xn d ∧ ∀ W base, ∀ p ∈ frow W base x xn d, Bd p.2 68 := by
  obtain ⟨hl, hh, hle⟩ : Xs (flo x xn) ∧ Xs (fhi x xn) ∧ V (flo x xn) ≤ V (fhi x xn) := by
    rcases flo_fhi hx.bd.fin hn.bd.fin with ⟨e1, e2, h⟩ | ⟨e1, e2, h⟩ <;> rw [e1, e2]
    · exact ⟨hx, hn, h⟩
    · exact ⟨hn, hx, h⟩
  obtain ⟨f1, f2, f3, f4⟩ := hl.fl
  obtain ⟨c1, c2, c3, c4⟩ := hh.ce
  have hlt : ffl (flo x xn) + 2 ≤ fce (fhi x xn) → V (flo x xn) < V (fhi x xn) := by
    intro h
    rw [f2, c2] at h
    have h' := Rat.intCast_le_intCast.2 h
    push_cast at h'
    have a := (floor_near (V (flo x xn))).2
    have b := (ceil_near (V (fhi x xn))).2
    grind
  obtain ⟨n1, n2⟩ := rowN_ok hx hn hl hd
  refine ⟨⟨f1, c1, by omega, by omega, by omega, by omega, fun _ => n1, fun h => (rowT_ok hl hh (hlt (by omega)) hd).1, fun h => (rowM_ok hl hh (hlt (by omega)) hd).1⟩, fun W base p hp => ?_⟩
  unfold frow at hp
  split at hp
  · exact n2 W base p hp
  · split at hp
    · exact (rowT_ok hl hh (hlt (by omega)) hd).2 W base p hp
    · exact (rowM_ok hl hh (hlt (by omega)) hd).2 W base _ p hp
end Go.Proofs.Ytmgcbodlolnheaa
