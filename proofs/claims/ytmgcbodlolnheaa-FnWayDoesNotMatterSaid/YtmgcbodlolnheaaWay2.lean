/-
  Floating numbers: an edge gone the other way adds the same, with the other sign; a path gone backward has the same edges, turned. No program is walked here.
  Floating numbers: how far a mask's sums are from exact sums of what the edges add; a path gone backward covers the same, but for little. No program is walked here.
-/
import Derived.Test.YtmgcbodlolnheaaFloEdge
import Derived.Test.YtmgcbodlolnheaaAreaLaw
namespace Go.Proofs.Ytmgcbodlolnheaa
open Flt Go.RowKit
set_option linter.unusedVariables false

theorem fneg_read {a : Nat} {s : Bool} {m : Nat} {i : Int} (ea : Ieee.single.read a = .number s m i) : Ieee.single.read (fneg a) = .number (!s) m i := by
  have e : fneg a = a ^^^ 2147483648 := rfl
  have hsw : Ieee.single.signWeight = 2147483648 := by decide
  have hmod : (a ^^^ 2147483648) % 2147483648 = a % 2147483648 := by
    have := Nat.xor_mod_two_pow (a := a) (b := 2147483648) (n := 31)
    simpa using this
  have hdiv : (a ^^^ 2147483648) / 2147483648 = (a / 2147483648) ^^^ 1 := by
    have := Nat.xor_div_two_pow (a := a) (b := 2147483648) (n := 31)
    simpa using this
  have hpar : ((a / 2147483648) ^^^ 1) % 2 = 1 - a / 2147483648 % 2 := by
    have := Nat.xor_mod_two_pow (a := a / 2147483648) (b := 1) (n := 1)
    simp only [Nat.pow_one] at this
    rw [this]
    rcases Nat.mod_two_eq_zero_or_one (a / 2147483648) with h | h <;> rw [h] <;> rfl
  rw [e]
  unfold Ieee.Format.read at ea ⊢
  rw [hsw] at ea ⊢
  simp only at ea ⊢
  rw [hmod, hdiv, hpar]
  have hs2 : (1 - a / 2147483648 % 2 == 1) = !(a / 2147483648 % 2 == 1) := by
    rcases Nat.mod_two_eq_zero_or_one (a / 2147483648) with h | h <;> rw [h] <;> rfl
  rw [hs2]
  split at ea
  · rename_i hc
    rw [if_pos hc]
    injection ea with h1 h2 h3
    rw [h1, h2, h3]
  · rename_i hc
    rw [if_neg hc]
    split at ea
    · rename_i hc2
      rw [if_pos hc2]
      injection ea with h1 h2 h3
      rw [h1, h2, h3]
    · split at ea <;> cases ea
theorem opp_read {a a' : Nat} (la : a < 4294967296) (la' : a' < 4294967296) (fa : F32 a) (fa' : F32 a') (h : V a' = -V a) (h0 : V a ≠ 0) : ∃ s m i, Ieee.single.read a = .number s m i ∧ Ieee.single.read a' = .number (!s) m i := by
  obtain ⟨f1, f2⟩ := fneg_ok fa
  have hl : fneg a < 4294967296 := Nat.xor_lt_two_pow (n := 32) la (by decide)
  have e : a' = fneg a := word_uniq la' hl fa' f1 (by rw [h]; grind) (by rw [h, f2])
  obtain ⟨s, m, i, ea⟩ := fa
  exact ⟨s, m, i, ea, by rw [e]; exact fneg_read ea⟩
theorem exact_val {x : Rat} {r c : Nat} (h : R32 x r) (hc : F32 c) (e : x = V c) : V r = x := by
  have hr := val_rep hc
  have h1 : Rep Ieee.single x := by rw [e]; exact hr
  exact Rounds.exact h h1
theorem zero_val {r : Nat} (h : R32 0 r) : V r = 0 := h.eq (n := 0) (q := 0) (by rw [p2_zero, cast_zero]; grind) (by decide) (by decide) (by decide)
theorem write_opp (u : Bool) (m : Nat) (i : Int) (hb : (m : Rat) * p2 i ≤ p2 126) : V (Ieee.single.write (.number (!u) m i)) = -V (Ieee.single.write (.number u m i)) := by
  have h := (write_neg good_single m i (by rw [big_single]; exact hb)).2
  cases u
  · exact h
  · show V (Ieee.single.write (.number false m i)) = -V (Ieee.single.write (.number true m i))
    have h1 : V (Ieee.single.write (.number true m i)) = -V (Ieee.single.write (.number false m i)) := h
    rw [h1]
    grind
theorem mul_opp {a a' b : Nat} (la : a < 4294967296) (la' : a' < 4294967296) (fa : F32 a) (fa' : F32 a') (fb : F32 b) (h : V a' = -V a) (hb : ab (V a * V b) ≤ p2 126) : V (fop .mul a' b) = -V (fop .mul a b) := by
  have e0 : V a' * V b = -(V a * V b) := by rw [h]; grind
  obtain ⟨_, r⟩ := fmul_ok fa fb hb
  obtain ⟨_, r'⟩ := fmul_ok fa' fb (by rw [e0, ab_neg]; exact hb)
  by_cases h0 : V a = 0
  · rw [h0] at r h
    have e1 : (0 : Rat) * V b = 0 := by grind
    rw [e1] at r
    rw [h] at r'
    have e2 : -(0 : Rat) * V b = 0 := by grind
    rw [e2] at r'
    rw [zero_val r, zero_val r']
    grind
  · obtain ⟨s, m, i, ea, ea'⟩ := opp_read la la' fa fa' h h0
    obtain ⟨t, n, j, eb⟩ := fb
    have w1 : fop .mul a b = Ieee.single.write (.number (s ^^ t) (m * n) (i + j)) := by
      have hf : floatBits .mul .f32 a b = Ieee.single.mul a b := rfl
      unfold fop
      rw [hf]
      unfold Ieee.Format.mul
      rw [ea, eb]
      rfl
    have w2 : fop .mul a' b = Ieee.single.write (.number ((!s) ^^ t) (m * n) (i + j)) := by
      have hf : floatBits .mul .f32 a' b = Ieee.single.mul a' b := rfl
      unfold fop
      rw [hf]
      unfold Ieee.Format.mul
      rw [ea', eb]
      rfl
    have w3 : ((!s) ^^ t) = !(s ^^ t) := by cases s <;> cases t <;> rfl
    rw [w1, w2, w3]
    refine write_opp _ _ _ ?_
    rw [(read_V ea).2, (read_V eb).2] at hb
    have e3 := prod_val s t m n i j
    have e4 : dval (.number s m i) * dval (.number t n j) = sgn s * m * p2 i * (sgn t * n * p2 j) := rfl
    rw [← e4, ← e3, dval_ab] at hb
    exact hb
theorem signed_opp (s : Bool) (m k : Nat) : Ieee.signed (!s) m k = -Ieee.signed s m k := by
  unfold Ieee.signed
  cases s <;> simp
theorem sub_opp {a a' b b' : Nat} (la : a < 4294967296) (la' : a' < 4294967296) (lb : b < 4294967296) (lb' : b' < 4294967296) (fa : F32 a) (fa' : F32 a') (fb : F32 b) (fb' : F32 b') (h : V a' = -V a) (hb0 : V b' = -V b) (hb : ab (V a - V b) ≤ p2 126) :
    V (fop .sub a' b') = -V (fop .sub a b) := by
  have e0 : V a' - V b' = -(V a - V b) := by rw [h, hb0]; grind
  obtain ⟨_, r⟩ := fsub_ok fa fb hb
  obtain ⟨_, r'⟩ := fsub_ok fa' fb' (by rw [e0, ab_neg]; exact hb)
  rw [e0] at r'
  by_cases hz : V a - V b = 0
  · rw [hz] at r r'
    have e2 : -(0 : Rat) = 0 := by grind
    rw [e2] at r'
    rw [zero_val r, zero_val r']
    grind
  by_cases ha0 : V a = 0
  · obtain ⟨f1, f2⟩ := fneg_ok fb
    rw [exact_val r f1 (by rw [f2, ha0]; grind), exact_val r' fb (by rw [ha0]; grind)]
  by_cases hb1 : V b = 0
  · obtain ⟨f1, f2⟩ := fneg_ok fa
    rw [exact_val r fa (by rw [hb1]; grind), exact_val r' f1 (by rw [hb1, f2]; grind)]
  obtain ⟨s, m, i, ea, ea'⟩ := opp_read la la' fa fa' h ha0
  obtain ⟨t, n, j, eb, eb'⟩ := opp_read lb lb' fb fb' hb0 hb1
  obtain ⟨T, hT⟩ : ∃ T, T = Ieee.signed s m (i - min i j).toNat + Ieee.signed (!t) n (j - min i j).toNat := ⟨_, rfl⟩
  have hT' : Ieee.signed (!s) m (i - min i j).toNat + Ieee.signed (!!t) n (j - min i j).toNat = -T := by
    rw [hT, signed_opp s, signed_opp (!t)]
    omega
  have w1 : fop .sub a b = Ieee.single.write (.number (if T = 0 then s && !t else decide (T < 0)) T.natAbs (min i j)) := by
    have hf : floatBits .sub .f32 a b = Ieee.single.sub a b := rfl
    unfold fop
    rw [hf]
    unfold Ieee.Format.sub
    rw [ea, eb]
    simp only [Ieee.Datum.opposite, Ieee.Datum.sum]
    rw [← hT]
    rfl
  have w2 : fop .sub a' b' = Ieee.single.write (.number (if -T = 0 then (!s) && !!t else decide (-T < 0)) (-T).natAbs (min i j)) := by
    have hf : floatBits .sub .f32 a' b' = Ieee.single.sub a' b' := rfl
    unfold fop
    rw [hf]
    unfold Ieee.Format.sub
    rw [ea', eb']
    simp only [Ieee.Datum.opposite, Ieee.Datum.sum]
    rw [hT']
    rfl
  obtain ⟨u, k, q, h1, h2⟩ := sum_val s (!t) m n i j
  have h3 : u = (if T = 0 then s && !t else decide (T < 0)) ∧ k = T.natAbs ∧ q = min i j := by
    simp only [Ieee.Datum.sum, ← hT, Option.some.injEq, Ieee.Datum.number.injEq] at h1
    exact ⟨h1.1.symm, h1.2.1.symm, h1.2.2.symm⟩
  have hval : dval (.number u k q) = V a - V b := by
    rw [h2, (read_V ea).2, (read_V eb).2]
    have e3 : dval (.number (!t) n j) = -dval (.number t n j) := (opposite_val t n j).2
    rw [e3]
    show sgn s * m * p2 i + -(sgn t * n * p2 j) = _
    grind
  have hT0 : T ≠ 0 := by
    intro h9
    apply hz
    rw [← hval, h3.2.1, h9]
    simp only [dval]
    simp
  have hu : (if -T = 0 then (!s) && !!t else decide (-T < 0)) = !(if T = 0 then s && !t else decide (T < 0)) := by
    rw [if_neg (by omega), if_neg hT0]
    by_cases c : T < 0
    · rw [decide_eq_true c, decide_eq_false (by omega)]; rfl
    · rw [decide_eq_false c, decide_eq_true (by omega)]; rfl
  have hn : (-T).natAbs = T.natAbs := by omega
  rw [w1, w2, hu, hn]
  refine write_opp _ _ _ ?_
  rw [← hval, dval_ab, h3.2.1, h3.2.2] at hb
  exact hb

/-! ### additions with the other sign -/
def OppL : List (Nat × Nat) → List (Nat × Nat) → Prop
  | [], [] => True
  | (k, v) :: t, (k', v') :: t' => k = k' ∧ V v' = -V v ∧ OppL t t'
  | _, _ => False
theorem OppL.append : ∀ {s z s' z' : List (Nat × Nat)}, OppL s z → OppL s' z' → OppL (s ++ s') (z ++ z')
  | [], [], _, _, _, h' => h'
  | [], _ :: _, _, _, h, _ => h.elim
  | _ :: _, [], _, _, h, _ => h.elim
  | (k, v) :: t, (k', n) :: t', _, _, h, h' => ⟨h.1, h.2.1, OppL.append h.2.2 h'⟩
theorem OppL.sum : ∀ {s z : List (Nat × Nat)} (p : Nat), OppL s z → sumR (valL z) p = -sumR (valL s) p
  | [], [], _, _ => by simp only [valL, List.map_nil, sumR]; grind
  | [], _ :: _, _, h => h.elim
  | _ :: _, [], _, h => h.elim
  | (k, v) :: t, (k', n) :: t', p, h => by
    obtain ⟨rfl, h1, h2⟩ := h
    have e1 : valL ((k, v) :: t) = (k, V v) :: valL t := rfl
    have e2 : valL ((k, n) :: t') = (k, V n) :: valL t' := rfl
    rw [e1, e2, sumR, sumR, h1, OppL.sum p h2]
    split <;> grind
/-- Two heights of opposite sign. -/
structure DD (d d' : Nat) : Prop where
  l : d < 4294967296
  l' : d' < 4294967296
  b : Bd d 0
  b' : Bd d' 0
  opp : V d' = -V d
theorem DD.mul {d d' Y : Nat} {k : Nat} (h : DD d d') (hY : Bd Y k) (hk : k ≤ 100) : V (fop .mul d' Y) = -V (fop .mul d Y) := by
  refine mul_opp h.l h.l' h.b.fin h.b'.fin hY.fin h.opp ?_
  have h1 : ab (V d * V Y) ≤ p2 0 * p2 k := ab_mul_le h.b.ab hY.ab
  rw [p2_zero, Rat.one_mul] at h1
  exact Rat.le_trans h1 (p2_mono (by omega))
theorem two_le {a b c d e : Rat} (h : a ≤ b + c) (h1 : b ≤ d) (h2 : c ≤ d) (he : e = 2 * d) : a ≤ e := by grind
theorem ffill_opp (base W : Nat) (x0 : Int) {v v' : Nat} (h : V v' = -V v) : ∀ N, OppL (ffill base W x0 v N) (ffill base W x0 v' N)
  | 0 => trivial
  | N + 1 => OppL.append (ffill_opp base W x0 h N) ⟨rfl, h, trivial⟩
theorem rowN_opp {x xn d d' lo : Nat} (hx : Xs x) (hn : Xs xn) (hl : Xs lo) (h : DD d d') (W base : Nat) : OppL (frowN W base x xn d lo) (frowN W base x xn d' lo) := by
  obtain ⟨_, _, b1, b2⟩ := hl.fl
  obtain ⟨i1, _⟩ := int15 b1 b2
  obtain ⟨q1, r1⟩ := Bd.add hx.bd hn.bd
  obtain ⟨q2, r2⟩ := Bd.mul fhalf.1 r1
  obtain ⟨q3, r3⟩ := Bd.sub r2 (i1.mono (by decide))
  obtain ⟨q4, r4⟩ := Bd.mul h.b r3
  obtain ⟨q4', r4'⟩ := Bd.mul h.b' r3
  have hm := h.mul (k := 17) (r3.mono (by decide)) (by decide)
  unfold frowN
  refine ⟨rfl, ?_, rfl, hm, trivial⟩
  refine sub_opp h.l h.l' (fop_lt _ _ _) (fop_lt _ _ _) h.b.fin h.b'.fin r4.fin r4'.fin h.opp hm ?_
  have k1 := ab_sub_le (V d) (V (fop .mul d (fop .sub (fop .mul 1056964608 (fop .add x xn)) (floatOfInt .f32 (ffl lo)))))
  have k2 := h.b.ab
  have k3 := r4.ab
  have m1 := p2_mono (a := 0) (b := 125) (by decide)
  have m2 := p2_mono (a := 0 + (16 + 1)) (b := 125) (by decide)
  have m3 : p2 126 = 2 * p2 125 := by rw [← p2_succ]; rfl
  exact two_le k1 (Rat.le_trans k2 m1) (Rat.le_trans k3 (p2_mono (b := 125) (by decide))) m3
theorem rowT_opp {d d' lo hi : Nat} (hl : Xs lo) (hh : Xs hi) (hlt : V lo < V hi) (h : DD d d') (W base : Nat) : OppL (frowT W base d lo hi) (frowT W base d' lo hi) := by
  obtain ⟨q1, w1, w2⟩ := width hl hh hlt
  obtain ⟨q2, s⟩ := quo_one w1 w2
  obtain ⟨q3, h0⟩ := Bd.mul fhalf.1 s
  obtain ⟨q4, lf⟩ := hl.frac
  obtain ⟨q5, om⟩ := Bd.sub fone.1 lf
  obtain ⟨q6, a1⟩ := Bd.mul h0 om
  obtain ⟨q7, a0⟩ := Bd.mul a1 om
  obtain ⟨q9, t1⟩ := Bd.sub (fone.1.mono (m := 51) (by decide)) (a0.mono (m := 51) (by decide))
  obtain ⟨q10, hc⟩ := hh.top
  obtain ⟨q11, xf⟩ := Bd.add hc fone.1
  obtain ⟨q12, b1⟩ := Bd.mul h0 xf
  obtain ⟨q13, am⟩ := Bd.mul b1 xf
  obtain ⟨q14, t2⟩ := Bd.sub (t1.mono (m := 52) (by decide)) (am.mono (m := 52) (by decide))
  unfold frowT
  exact ⟨rfl, h.mul (k := 100) (a0.mono (by decide)) (by decide), rfl, h.mul (k := 100) (t2.mono (by decide)) (by decide), rfl, h.mul (k := 100) (am.mono (by decide)) (by decide), trivial⟩
theorem rowM_opp {d d' lo hi : Nat} (hl : Xs lo) (hh : Xs hi) (hlt : V lo < V hi) (h : DD d d') (W base N : Nat) : OppL (frowM W base d lo hi N) (frowM W base d' lo hi N) := by
  obtain ⟨_, _, l1, l2⟩ := hl.fl
  obtain ⟨_, _, h1, h2⟩ := hh.ce
  obtain ⟨iN, _⟩ := ofInt_bd (n := fce hi - ffl lo - 3) (k := 17) (by decide) (by omega) (by omega)
  obtain ⟨q1, w1, w2⟩ := width hl hh hlt
  obtain ⟨q2, s⟩ := quo_one w1 w2
  obtain ⟨q3, h0⟩ := Bd.mul fhalf.1 s
  obtain ⟨q4, lf⟩ := hl.frac
  obtain ⟨q5, om⟩ := Bd.sub fone.1 lf
  obtain ⟨q6, a1⟩ := Bd.mul h0 om
  obtain ⟨q7, a0⟩ := Bd.mul a1 om
  obtain ⟨q9, l15⟩ := Bd.sub f15.1 (lf.mono (m := 1) (by decide))
  obtain ⟨q10, c1⟩ := Bd.mul s l15
  obtain ⟨q11, c2⟩ := Bd.sub c1 (a0.mono (m := 50) (by decide))
  obtain ⟨q13, sN⟩ := Bd.mul s iN
  obtain ⟨q14, a2⟩ := Bd.add (c1.mono (m := 65) (by decide)) sN
  obtain ⟨q15, u1⟩ := Bd.sub (fone.1.mono (m := 66) (by decide)) a2
  obtain ⟨q16, hc⟩ := hh.top
  obtain ⟨q17, xf⟩ := Bd.add hc fone.1
  obtain ⟨q18, b1⟩ := Bd.mul h0 xf
  obtain ⟨q19, am⟩ := Bd.mul b1 xf
  obtain ⟨q20, u2⟩ := Bd.sub u1 (am.mono (m := 67) (by decide))
  unfold frowM
  refine OppL.append (OppL.append ⟨rfl, h.mul (k := 100) (a0.mono (by decide)) (by decide), rfl, h.mul (k := 100) (c2.mono (by decide)) (by decide), trivial⟩ (ffill_opp base W _ (h.mul (k := 100) (s.mono (by decide)) (by decide)) N)) ?_
  exact ⟨rfl, h.mul (k := 100) (u2.mono (by decide)) (by decide), rfl, h.mul (k := 100) (am.mono (by decide)) (by decide), trivial⟩
theorem frow_opp {x xn d d' : Nat} (hx : Xs x) (hn : Xs xn) (h : DD d d') (W base : Nat) : OppL (frow W base x xn d) (frow W base x xn d') := by
  obtain ⟨hl, hh, hle⟩ : Xs (flo x xn) ∧ Xs (fhi x xn) ∧ V (flo x xn) ≤ V (fhi x xn) := by
    rcases flo_fhi hx.bd.fin hn.bd.fin with ⟨e1, e2, h⟩ | ⟨e1, e2, h⟩ <;> rw [e1, e2]
    · exact ⟨hx, hn, h⟩
    · exact ⟨hn, hx, h⟩
  have hlt : ffl (flo x xn) + 2 ≤ fce (fhi x xn) → V (flo x xn) < V (fhi x xn) := by
    intro hc
    obtain ⟨_, el, _⟩ := hl.fl
    obtain ⟨_, eh, _⟩ := hh.ce
    obtain ⟨fl1, fl2⟩ := floor_near (V (flo x xn))
    obtain ⟨ce1, ce2⟩ := ceil_near (V (fhi x xn))
    rw [← el] at fl1 fl2
    rw [← eh] at ce1 ce2
    have := castLe hc
    push_cast at this
    grind
  unfold frow
  split
  · exact rowN_opp hx hn hl h W base
  · split
    · exact rowT_opp hl hh (hlt (by omega)) h W base
    · exact rowM_opp hl hh (hlt (by omega)) h W base _
theorem adds_opp {m1 m2 m3 m4 : Int} (h : Span m1 m2 m3 m4) (W : Nat) : ∀ (k n : Nat) (y : Int) (x : Nat), OnF m1 m2 m3 m4 n y x → m2 / 64 ≤ y → y + k ≤ (m4 + 63) / 64 → n + k ≤ 10000 →
    OppL ((⟨wq m2, wq m4, 1065353216, slopeW m1 m2 m3 m4⟩ : GL).adds W k y x) ((⟨wq m2, wq m4, 3212836864, slopeW m1 m2 m3 m4⟩ : GL).adds W k y x)
  | 0, _, _, _, _, _, _, _ => trivial
  | k + 1, n, y, x, ho, h1, h2, h3 => by
    obtain ⟨⟨s1, s2, s3, s4⟩, hn⟩ := ho.next h (dir := 1065353216) h1 (by omega) (by omega)
    obtain ⟨p1, p2', p3⟩ := k64_bd h.lt h1 (show y < (m4 + 63) / 64 by omega)
    have ih := adds_opp h W k (n + 1) (y + 1) _ hn (by omega) (by omega) (by omega)
    have hE1 : Ex 0 1065353216 1 := ⟨fone.1.fin, by rw [fone.2, p2_zero]; push_cast; grind⟩
    have hE2 : Ex 0 3212836864 (-1) := ⟨fmone.1.fin, by rw [fmone.2, p2_zero]; push_cast; grind⟩
    have t1 := (s4.ex.mul hE1 (by omega) (by omega) (by decide) (by decide)).q64
    have t2 := (s4.ex.mul hE2 (by omega) (by omega) (by decide) (by decide)).q64
    have hD : DD (fop .mul ((⟨wq m2, wq m4, 1065353216, slopeW m1 m2 m3 m4⟩ : GL).dy y) 1065353216) (fop .mul ((⟨wq m2, wq m4, 3212836864, slopeW m1 m2 m3 m4⟩ : GL).dy y) 3212836864) := by
      refine ⟨fop_lt _ _ _, fop_lt _ _ _, t1.bd0 (by omega) (by omega), t2.bd0 (by omega) (by omega), ?_⟩
      have e1 := t1.2
      have e2 : V (fop .mul ((⟨wq m2, wq m4, 3212836864, slopeW m1 m2 m3 m4⟩ : GL).dy y) 3212836864) = _ := t2.2
      rw [e1, e2]
      push_cast
      grind
    rw [GL.adds, GL.adds]
    refine OppL.append ?_ ih
    by_cases hy : y < 0
    · rw [if_pos hy, if_pos hy]
      trivial
    · rw [if_neg hy, if_neg hy]
      exact frow_opp ho.xs hn.xs hD W _
/-- An edge gone the other way. -/
theorem edge_opp (W H : Nat) {a b : Pt} (ha : Small a) (hb : Small b) (p : Nat) : sumR (valL (edgeF W H (b, a))) p = -sumR (valL (edgeF W H (a, b))) p := by
  have key : ∀ {a b : Pt}, Small a → Small b → a.2 < b.2 → sumR (valL (edgeF W H (b, a))) p = -sumR (valL (edgeF W H (a, b))) p := by
    intro a b ha hb h
    have hsp : Span a.1 a.2 b.1 b.2 := ⟨ha.1, ha.2, hb.1, hb.2, h⟩
    rw [edgeF_down W H ha hb h, edgeF_up W H hb ha h]
    have hb2 := hsp.a2
    have hb4 := hsp.a4
    exact (adds_opp hsp W _ 0 (a.2 / 64) (wq a.1) (OnF.first hsp) (Int.le_refl _) (by unfold imin; split <;> omega) (by unfold imin; split <;> omega)).sum p
  rcases Int.lt_trichotomy a.2 b.2 with h | h | h
  · exact key ha hb h
  · rw [edgeF_flat W H hb ha h.symm, edgeF_flat W H ha hb h]
    simp only [valL, List.map_nil, sumR]
    grind
  · rw [key hb ha h]
    grind

/-! ### a path gone backward -/
def chainL : List Pt → List (Pt × Pt)
  | a :: b :: t => (a, b) :: chainL (b :: t)
  | _ => []
def turn (e : Pt × Pt) : Pt × Pt := (e.2, e.1)
theorem edgesFrom_chain : ∀ (t : List Pt) (first cur : Pt), edgesFrom first cur t = chainL (cur :: (t ++ [first]))
  | [], first, cur => rfl
  | q :: t, first, cur => by
    rw [edgesFrom, edgesFrom_chain t first q]
    rfl
theorem chainL_mid : ∀ (l : List Pt) (x : Pt) (r : List Pt), chainL (l ++ x :: r) = chainL (l ++ [x]) ++ chainL (x :: r)
  | [], x, r => by simp [chainL]
  | [a], x, r => by simp [chainL]
  | a :: b :: l, x, r => by
    have := chainL_mid (b :: l) x r
    simp only [List.cons_append, chainL] at this ⊢
    rw [this]
theorem chainL_rev : ∀ (l : List Pt), chainL l.reverse = (chainL l).reverse.map turn
  | [] => rfl
  | [a] => rfl
  | a :: b :: t => by
    have ih := chainL_rev (b :: t)
    have e1 : (a :: b :: t).reverse = t.reverse ++ b :: [a] := by simp
    have e2 : (b :: t).reverse = t.reverse ++ [b] := by simp
    rw [e1, chainL_mid, ← e2, ih]
    simp [chainL, turn]
/-- The edges of a path gone backward are those of the path, turned, in another order. -/
theorem edges_back (p : List Pt) : ∃ (l : List (Pt × Pt)) (e : Pt × Pt), p ≠ [] → edges p.reverse = l ++ [e] ∧ (edges p).reverse.map turn = e :: l := by
  cases p with
  | nil => exact ⟨[], ((0, 0), (0, 0)), fun h => absurd rfl h⟩
  | cons a t =>
    have e1 : edges (a :: t) = chainL (a :: (t ++ [a])) := edgesFrom_chain t a a
    have e2 : (chainL (a :: (t ++ [a]))).reverse.map turn = chainL (a :: (t.reverse ++ [a])) := by
      rw [← chainL_rev]
      simp
    rw [e1, e2]
    cases hr : t.reverse ++ [a] with
    | nil => simp at hr
    | cons z s =>
      have e3 : edges (a :: t).reverse = chainL (z :: (s ++ [z])) := by
        have : (a :: t).reverse = z :: s := by rw [← hr]; simp
        rw [this]
        exact edgesFrom_chain s z z
      refine ⟨chainL (z :: s), (a, z), fun _ => ⟨?_, rfl⟩⟩
      rw [e3]
      have e4 : z :: (s ++ [z]) = t.reverse ++ a :: [z] := by
        have : z :: (s ++ [z]) = (z :: s) ++ [z] := rfl
        rw [this, ← hr]
        simp
      rw [e4, chainL_mid, hr]
      rfl
theorem sumE_rev {α : Type} (f : α → Rat) : ∀ (l : List α), sumE f l.reverse = sumE f l
  | [] => rfl
  | a :: l => by
    rw [List.reverse_cons, sumE_append, sumE_rev f l]
    simp only [sumE]
    grind
theorem sumE_map {α β : Type} (f : β → Rat) (g : α → β) : ∀ (l : List α), sumE f (l.map g) = sumE (fun a => f (g a)) l
  | [] => rfl
  | a :: l => by rw [List.map_cons, sumE, sumE_map f g l, sumE]
theorem sumE_back (f : Pt × Pt → Rat) {p : List Pt} (hp : p ≠ []) : sumE f (edges p.reverse) = sumE (fun e => f (turn e)) (edges p) := by
  obtain ⟨l, e, h⟩ := edges_back p
  obtain ⟨h1, h2⟩ := h hp
  have h3 : sumE (fun e => f (turn e)) (edges p) = sumE f (e :: l) := by rw [← h2, sumE_map, sumE_rev]
  rw [h1, h3, sumE_append]
  simp only [sumE]
  grind
theorem mem_back {p : List Pt} (hp : p ≠ []) {e : Pt × Pt} (he : e ∈ edges p.reverse) : ∃ e' ∈ edges p, e = turn e' := by
  obtain ⟨l, e0, h⟩ := edges_back p
  obtain ⟨h1, h2⟩ := h hp
  rw [h1] at he
  have : e ∈ (edges p).reverse.map turn := by
    rw [h2]
    simp only [List.mem_append, List.mem_cons, List.not_mem_nil, or_false] at he ⊢
    rcases he with h | h
    · exact .inr h
    · exact .inl h
  obtain ⟨e', h3, h4⟩ := List.mem_map.1 this
  exact ⟨e', by simpa using h3, h4.symm⟩
end Go.Proofs.Ytmgcbodlolnheaa

namespace Go.Proofs.Ytmgcbodlolnheaa
open Flt Go.RowKit
set_option linter.unusedVariables false

theorem rle_eq {a b : Rat} (h : a = b) : a ≤ b := by rw [h]; exact Rat.le_refl
/-! ### sums over edges -/
theorem sumE_ab {α : Type} {f g : α → Rat} : ∀ {s : List α}, (∀ e ∈ s, ab (f e) ≤ g e) → ab (sumE f s) ≤ sumE g s
  | [], _ => by simp only [sumE]; decide +kernel
  | e :: s, h => by
    have h1 := sumE_ab (f := f) (g := g) (s := s) fun e he => h e (by simp [he])
    have h2 := h e (by simp)
    have h3 := ab_add_le (f e) (sumE f s)
    rw [sumE, sumE]
    grind
theorem sumE_le {α : Type} {f g : α → Rat} : ∀ {s : List α}, (∀ e ∈ s, f e ≤ g e) → sumE f s ≤ sumE g s
  | [], _ => Rat.le_refl
  | e :: s, h => by
    have h1 := sumE_le (f := f) (g := g) (s := s) fun e he => h e (by simp [he])
    have h2 := h e (by simp)
    rw [sumE, sumE]
    grind
theorem sumE_const {α : Type} (c : Rat) : ∀ (s : List α), sumE (fun _ => c) s = s.length * c
  | [] => by simp only [sumE, List.length_nil]; push_cast; grind
  | e :: s => by rw [sumE, sumE_const c s, List.length_cons]; push_cast; grind
theorem sumE_neg {α : Type} (f : α → Rat) : ∀ (s : List α), sumE (fun e => -f e) s = -sumE f s
  | [] => by simp only [sumE]; grind
  | e :: s => by rw [sumE, sumE_neg f s, sumE]; grind
theorem sumN_sumE {α : Type} (f : α → Nat → Rat) (n : Nat) : ∀ (s : List α), sumN (fun k => sumE (fun e => f e k) s) n = sumE (fun e => sumN (f e) n) s
  | [] => by
    simp only [sumE]
    rw [sumN_const]
    grind
  | e :: s => by
    simp only [sumE]
    rw [sumN_add, sumN_sumE f n s]
theorem rowsR_sumN (f : Int → Rat) : ∀ n : Nat, rowsR f 0 n = sumN (fun k => f (k : Int)) n
  | 0 => rfl
  | n + 1 => by rw [rowsR_last, rowsR_sumN f n, sumN]
theorem sumR_edges (W : Nat) (H : Int) (p : Nat) : ∀ (es : List (Pt × Pt)), sumR (valL (edgesF W H es)) p = sumE (fun e => sumR (valL (edgeF W H e)) p) es
  | [] => rfl
  | e :: t => by rw [edgesF, valL_append, sumR_append, sumR_edges W H p t, sumE]

/-! ### the heights of an edge's rows -/
theorem ph_sum (t : Int) : ∀ n : Nat, sumN (fun k => ((ph k t : Int) : Rat)) n = ((imin (imax t 0) (64 * n) : Int) : Rat)
  | 0 => by
    have : imin (imax t 0) (64 * ((0 : Nat) : Int)) = 0 := by unfold imin imax; split <;> split <;> omega
    rw [this]
    rfl
  | n + 1 => by
    rw [sumN, ph_sum t n]
    have : imin (imax t 0) (64 * ((n + 1 : Nat) : Int)) = imin (imax t 0) (64 * (n : Int)) + ph n t := by
      have a1 := ph_cases n t
      unfold imin imax
      split <;> split <;> (try split) <;> (try split) <;> omega
    rw [this]
    push_cast
    rfl
theorem heights (e : Pt × Pt) (n : Nat) : sumN (fun k => ab (((dph k e : Int) : Rat) / 64)) n ≤ rowsE e := by
  obtain ⟨⟨x0, y0⟩, ⟨x1, y1⟩⟩ := e
  have key : ∀ {y0 y1 : Int}, y0 ≤ y1 → sumN (fun k => (1 / 64) * (((ph k y1 : Int) : Rat) - ((ph k y0 : Int) : Rat))) n ≤ (((y1 - y0 + 63) / 64 + 1 : Int) : Rat) := by
    intro y0 y1 h
    rw [sumN_mul]
    have e1 : sumN (fun k => ((ph k y1 : Int) : Rat) - ((ph k y0 : Int) : Rat)) n = sumN (fun k => ((ph k y1 : Int) : Rat) + (-1) * ((ph k y0 : Int) : Rat)) n := sumN_congr fun k _ => by grind
    rw [e1, sumN_add, sumN_mul, ph_sum, ph_sum]
    have h1 : imin (imax y1 0) (64 * (n : Int)) - imin (imax y0 0) (64 * (n : Int)) ≤ 64 * ((y1 - y0 + 63) / 64 + 1) := by
      unfold imin imax
      split <;> split <;> (try split) <;> (try split) <;> omega
    have h2 := castLe h1
    push_cast at h2 ⊢
    grind
  rcases Int.le_total y0 y1 with h | h
  · have hr : rowsE ((x0, y0), (x1, y1)) = (y1 - y0 + 63) / 64 + 1 := by unfold rowsE imax; simp only; split <;> omega
    rw [hr]
    refine Rat.le_trans (rle_eq ?_) (key h)
    refine sumN_congr fun k _ => ?_
    have a1 := ph_cases k y0
    have a2 := ph_cases k y1
    have hd : 0 ≤ dph k ((x0, y0), (x1, y1)) := by unfold dph; simp only; omega
    have hd2 := castLe hd
    rw [cast_zero] at hd2
    rw [ab_of_nonneg (by grind)]
    unfold dph
    push_cast
    grind
  · have hr : rowsE ((x0, y0), (x1, y1)) = (y0 - y1 + 63) / 64 + 1 := by unfold rowsE imax; simp only; split <;> omega
    rw [hr]
    refine Rat.le_trans (rle_eq ?_) (key h)
    refine sumN_congr fun k _ => ?_
    have a1 := ph_cases k y0
    have a2 := ph_cases k y1
    have hd : dph k ((x0, y0), (x1, y1)) ≤ 0 := by unfold dph; simp only; omega
    have hd2 := castLe hd
    rw [cast_zero] at hd2
    rw [ab_of_nonpos (by grind)]
    unfold dph
    push_cast
    grind

/-! ### cells -/
def Ebd (A κ : Rat) (j : Nat) : Rat := A * ((10003 / 10000 * (j * (j + 1)) + j * κ) * (1 / 16777216) + j * (1 / 1000000000000000000000000000000))
theorem Ebd_succ (A κ : Rat) (j : Nat) : Ebd A κ (j + 1) = Ebd A κ j + A * ((10003 / 5000 * (j + 1) + κ) * (1 / 16777216) + 1 / 1000000000000000000000000000000) := by
  unfold Ebd
  push_cast
  grind
theorem Ebd_mono {A κ : Rat} (hA : 0 ≤ A) (hκ : 0 ≤ κ) {i j : Nat} (h : i ≤ j) : Ebd A κ i ≤ Ebd A κ j := by
  induction j with
  | zero =>
    have : i = 0 := by omega
    rw [this]
    exact Rat.le_refl
  | succ j ih =>
    by_cases c : i = j + 1
    · rw [c]; exact Rat.le_refl
    · have h1 := ih (by omega)
      rw [Ebd_succ]
      have hj : (0 : Rat) ≤ (j : Rat) := by exact_mod_cast Nat.zero_le j
      have := Rat.mul_nonneg hA (show 0 ≤ (10003 / 5000 * ((j : Rat) + 1) + κ) * (1 / 16777216) + 1 / 1000000000000000000000000000000 by grind)
      grind
theorem cells_all {W H n : Nat} {B A κ : Rat} (hA : 0 ≤ A) (hκ0 : 0 ≤ κ) (hκ1 : κ ≤ 1) : ∀ (es : List (Pt × Pt)) (l : List Nat) (s : List (Nat × Rat)) (j : Nat), CellsBd l → n ≤ l.length → (∀ e ∈ es, EF W H B e ∧ ((edgeF W H e).length : Rat) ≤ A) → (∀ k, cellA s k ≤ 10003 / 5000 * j) → offL l s n ≤ Ebd A κ j → Ebd A κ (j + es.length) ≤ κ →
    offL (fadds (edgesF W H es) l) (s ++ valL (edgesF W H es)) n ≤ Ebd A κ (j + es.length)
  | [], l, s, j, hl, hn, hE, hs, ho, hb => by
    simp only [edgesF, fadds, valL, List.map_nil, List.append_nil, List.length_nil, Nat.add_zero]
    exact ho
  | e :: t, l, s, j, hl, hn, hE, hs, ho, hb => by
    obtain ⟨h1, h2⟩ := hE e (by simp)
    have hj0 : (0 : Rat) ≤ (j : Rat) := by exact_mod_cast Nat.zero_le j
    have hstep := Ebd_succ A κ j
    have hm1 : Ebd A κ (j + 1) ≤ κ := Rat.le_trans (Ebd_mono hA hκ0 (by simp)) hb
    have hδ : 0 ≤ (10003 / 5000 * ((j : Rat) + 1) + κ) * (1 / 16777216) + 1 / 1000000000000000000000000000000 := by grind
    have hlen := Rat.mul_le_mul_of_nonneg_right h2 hδ
    have hE0 : 0 ≤ Ebd A κ j := by
      have := Ebd_mono hA hκ0 (show 0 ≤ j by omega)
      have e0 : Ebd A κ 0 = 0 := by unfold Ebd; push_cast; grind
      grind
    have k := off_list (κ := κ) (C := 10003 / 5000 * ((j : Rat) + 1)) (by grind) hκ0 hκ1 (edgeF W H e) l s (Ebd A κ j) hl h1.bd hn (fun c => by
      have a := hs c
      have b := h1.cell c
      grind) ho (by grind) hE0
    obtain ⟨_, hl2⟩ := fadds_ok (edgeF W H e) l hl h1.bd
    have hlen2 : n ≤ (fadds (edgeF W H e) l).length := by rw [length_fadds]; exact hn
    have ih := cells_all hA hκ0 hκ1 t (fadds (edgeF W H e) l) (s ++ valL (edgeF W H e)) (j + 1) hl2 hlen2 (fun e' he => hE e' (by simp [he])) (fun c => by
      rw [cellA_append]
      have a := hs c
      have b := h1.cell c
      push_cast
      grind) (by rw [hstep]; grind) (by rw [List.length_cons] at hb; rw [show j + 1 + t.length = j + (t.length + 1) by omega]; exact hb)
    rw [edgesF, fadds_append, valL_append, ← List.append_assoc, List.length_cons, show j + (t.length + 1) = j + 1 + t.length by omega]
    exact ih

/-! ### the sum of a pixel -/
/-- What an edge may put in at most, at row Y, besides what cancels. -/
def gE (H : Nat) (B : Rat) (e : Pt × Pt) (Y : Nat) : Rat := ab ((dph Y e : Rat) / 64) * (1 / 2 + (B + 8) / 16777216) + rowsR (fun r => ab ((dph r e : Rat) / 64) * (24 / 16777216)) 0 Y + 1 / 10000000000000000000000
theorem dph_le (r : Int) (e : Pt × Pt) : ab ((dph r e : Rat) / 64) ≤ 1 := by
  have h := dph_bd r e
  have h1 := castLe h.1
  have h2 := castLe h.2
  push_cast at h1 h2
  exact ab_le (by grind) (by grind)
theorem rows_ab (e : Pt × Pt) (Y : Nat) : rowsR (fun r => ab ((dph r e : Rat) / 64) * (24 / 16777216)) 0 Y = (24 / 16777216) * sumN (fun k => ab (((dph k e : Int) : Rat) / 64)) Y := by
  rw [rowsR_sumN, ← sumN_mul]
  refine sumN_congr fun k _ => ?_
  grind
theorem gE_sum {H : Nat} {B : Rat} {e : Pt × Pt} (hB : 0 ≤ B) (hH : H ≤ 200) : sumN (gE H B e) H ≤ (1 / 2 + (B + 8) / 16777216 + 4800 / 16777216) * rowsE e + 1 / 1000000000000000000 := by
  obtain ⟨q, hq⟩ : ∃ q, q = sumN (fun k => ab (((dph k e : Int) : Rat) / 64)) H := ⟨_, rfl⟩
  have hqR : q ≤ rowsE e := by rw [hq]; exact heights e H
  have hq0 : 0 ≤ q := by rw [hq]; exact sumN_nonneg fun k _ => ab_nonneg _
  have h1 : sumN (gE H B e) H ≤ sumN (fun Y => (1 / 2 + (B + 8) / 16777216) * ab (((dph Y e : Int) : Rat) / 64) + ((24 / 16777216) * q + 1 / 10000000000000000000000)) H := by
    refine sumN_le fun Y hY => ?_
    unfold gE
    rw [rows_ab]
    have hm : sumN (fun k => ab (((dph k e : Int) : Rat) / 64)) Y ≤ q := by rw [hq]; exact sumN_mono (fun k => ab_nonneg _) (by omega)
    grind
  rw [sumN_add, sumN_mul, ← hq, sumN_const] at h1
  have hH' : (H : Rat) ≤ 200 := by exact_mod_cast hH
  have hH0 : (0 : Rat) ≤ H := by exact_mod_cast Nat.zero_le H
  have m1 := Rat.mul_le_mul_of_nonneg_right hH' (show 0 ≤ (24 / 16777216) * q + 1 / 10000000000000000000000 by grind)
  have m2 := Rat.mul_le_mul_of_nonneg_left hqR (show 0 ≤ 1 / 2 + (B + 8) / 16777216 + 4800 / 16777216 by grind)
  grind
theorem gE_bd {H : Nat} {B : Rat} {e : Pt × Pt} (hB : 0 ≤ B) (hB1 : B ≤ 1024) (hR : rowsE e ≤ 2000) (Y : Nat) : gE H B e Y ≤ 1 ∧ 0 ≤ gE H B e Y := by
  unfold gE
  rw [rows_ab]
  have h1 := dph_le Y e
  have h0 := ab_nonneg ((dph Y e : Rat) / 64)
  have h2 := heights e Y
  have h3 : 0 ≤ sumN (fun k => ab (((dph k e : Int) : Rat) / 64)) Y := sumN_nonneg fun k _ => ab_nonneg _
  have h4 := castLe hR
  push_cast at h4
  have m1 := Rat.mul_le_mul_of_nonneg_right h1 (show 0 ≤ 1 / 2 + (B + 8) / 16777216 by grind)
  have m2 := Rat.mul_nonneg h0 (show 0 ≤ 1 / 2 + (B + 8) / 16777216 by grind)
  constructor <;> grind
theorem half_mean {D m : Rat} (h0 : 0 ≤ m) (h1 : m ≤ 1) : ab (D * m - D / 2) ≤ ab D * (1 / 2) := by
  have e : D * m - D / 2 = D * (m - 1 / 2) := by grind
  rw [e]
  exact ab_mul_le Rat.le_refl (ab_le (by grind) (by grind))
/-- What the edges of closed paths put in, in all. -/
theorem S_bound {W H : Nat} {B : Rat} (ps : List (List Pt)) (hE : ∀ e ∈ ps.flatMap edges, EF W H B e) {X Y : Nat} (hX : X < W) (hY : Y < H) :
    ab (sumE (fun e => sumR (valL (edgeF W H e)) (Y * W + X)) (ps.flatMap edges)) ≤ sumE (fun e => gE H B e Y) (ps.flatMap edges) := by
  have hclosed : ∀ r, sumE (fun e => (dph r e : Rat) / 64) (ps.flatMap edges) = 0 := by
    intro r
    have h1 : zsum (fun e => dph r e) (ps.flatMap edges) = 0 := dph_several (ph r) ps
    have h2 := zsum_sumE (fun e => dph r e) (ps.flatMap edges)
    rw [h1, cast_zero] at h2
    have h3 : sumE (fun e => (dph r e : Rat) / 64) (ps.flatMap edges) = sumE (fun e => (1 / 64) * ((dph r e : Int) : Rat)) (ps.flatMap edges) := sumE_congr fun e _ => by grind
    rw [h3, sumE_mul, ← h2]
    grind
  have hrows : sumE (fun e => rowsR (fun r => (dph r e : Rat) / 64) 0 Y) (ps.flatMap edges) = 0 := by
    rw [sumE_rows (fun e r => (dph r e : Rat) / 64)]
    exact rowsR_zero fun r _ _ => hclosed r
  have hsplit : sumE (fun e => sumR (valL (edgeF W H e)) (Y * W + X)) (ps.flatMap edges) = sumE (fun e => sumR (valL (edgeF W H e)) (Y * W + X) - (rowsR (fun r => (dph r e : Rat) / 64) 0 Y + (dph Y e : Rat) / 64 / 2)) (ps.flatMap edges) := by
    have h1 := sumE_add (fun e => sumR (valL (edgeF W H e)) (Y * W + X) - (rowsR (fun r => (dph r e : Rat) / 64) 0 Y + (dph Y e : Rat) / 64 / 2)) (fun e => rowsR (fun r => (dph r e : Rat) / 64) 0 Y + (1 / 2) * ((dph Y e : Rat) / 64)) (ps.flatMap edges)
    rw [sumE_add (fun e => rowsR (fun r => (dph r e : Rat) / 64) 0 Y) (fun e => (1 / 2) * ((dph Y e : Rat) / 64)), sumE_mul, hrows, hclosed] at h1
    have h2 : sumE (fun e => sumR (valL (edgeF W H e)) (Y * W + X)) (ps.flatMap edges) = sumE (fun e => (sumR (valL (edgeF W H e)) (Y * W + X) - (rowsR (fun r => (dph r e : Rat) / 64) 0 Y + (dph Y e : Rat) / 64 / 2)) + (rowsR (fun r => (dph r e : Rat) / 64) 0 Y + (1 / 2) * ((dph Y e : Rat) / 64))) (ps.flatMap edges) := sumE_congr fun e _ => by grind
    rw [h2, h1]
    grind
  rw [hsplit]
  refine sumE_ab fun e he => ?_
  obtain ⟨m, m0, m1, _, hc⟩ := (hE e he).cum X Y hX hY
  have hh := half_mean (D := (dph Y e : Rat) / 64) m0 m1
  unfold gE
  generalize rowsR (fun r => ab ((dph r e : Rat) / 64) * (24 / 16777216)) 0 Y = R1 at *
  generalize rowsR (fun r => (dph r e : Rat) / 64) 0 Y = R2 at *
  generalize sumR (valL (edgeF W H e)) (Y * W + X) = S at *
  generalize (dph Y e : Rat) / 64 = D at *
  have e1 : S - (R2 + D / 2) = (S - (R2 + D * m)) + (D * m - D / 2) := by grind
  rw [e1]
  have k := ab_add_le (S - (R2 + D * m)) (D * m - D / 2)
  have e2 : ab D * (1 / 2 + (B + 8) / 16777216) = ab D * (1 / 2) + ab D * ((B + 8) / 16777216) := by grind
  rw [e2]
  generalize ab D * ((B + 8) / 16777216) = z at *
  grind
/-- How far the sum of a pixel is from what the edges put in. -/
def EPS (W H : Nat) (A B κ : Rat) (n : Nat) (N : Rat) : Rat := Ebd A κ n + W * (n * ((1 / 2 + (B + 8) / 16777216 + 4800 / 16777216) * N + 1 / 1000000000000000000)) * (1 / 16777216) + (W * H : Nat) * (2 * κ * (1 / 16777216) + 1 / 1000000000000000000000000000000)
theorem flo_sum {W H : Nat} {A B κ N : Rat} (hW : 1 ≤ W) (hH : H ≤ 200) (hA : 0 ≤ A) (hB : 0 ≤ B) (hB1 : B ≤ 1024) (hκ0 : 0 ≤ κ) (hκ1 : κ ≤ 1) {ps : List (List Pt)} (hne : ∀ p ∈ ps, p ≠ []) (hn : (ps.flatMap edges).length ≤ 100)
    (hE : ∀ e ∈ ps.flatMap edges, EF W H B e ∧ ((edgeF W H e).length : Rat) ≤ A ∧ (rowsE e : Rat) ≤ N ∧ rowsE e ≤ 2000) (hb : EPS W H A B κ (ps.flatMap edges).length N ≤ κ) {X Y : Nat} (hX : X < W) (hY : Y < H) :
    ∃ a, (maskR true W H (ps.flatMap pathOps))[Y * W + X]? = some (floByte a) ∧ F32 a ∧ ab (V a - sumE (fun e => sumR (valL (edgeF W H e)) (Y * W + X)) (ps.flatMap edges)) ≤ EPS W H A B κ (ps.flatMap edges).length N := by
  have hp : Y * W + X < H * W := by
    have h1 : (Y + 1) * W ≤ H * W := Nat.mul_le_mul_right W hY
    rw [Nat.add_mul, Nat.one_mul] at h1
    omega
  have hp' : Y * W + X < W * H := by rw [Nat.mul_comm W H]; exact hp
  generalize hes : ps.flatMap edges = es at *
  have hS := fun X Y hX hY => S_bound (W := W) (H := H) (B := B) ps (by rw [hes]; exact fun e he => (hE e he).1) (X := X) (Y := Y) hX hY
  rw [hes] at hS
  -- cells
  have hoff0 : offL (List.replicate (W * H) 0) [] (W * H) = 0 := by
    have h1 : offL (List.replicate (W * H) 0) [] (W * H) = sumN (fun _ => 0) (W * H) := by
      unfold offL
      refine sumN_congr fun k hk => ?_
      have : fAt (List.replicate (W * H) 0) k = 0 := by unfold fAt; simp [List.getD, hk]
      rw [this, fzero.2]
      show ab (0 - 0) = 0
      decide +kernel
    rw [h1, sumN_const]
    grind
  have hEb0 : Ebd A κ 0 = 0 := by unfold Ebd; push_cast; grind
  have hEκ : Ebd A κ es.length ≤ κ := by
    refine Rat.le_trans ?_ hb
    unfold EPS
    have a1 : (0 : Rat) ≤ (W : Rat) := by exact_mod_cast Nat.zero_le W
    have a2 : (0 : Rat) ≤ (es.length : Rat) := by exact_mod_cast Nat.zero_le _
    have a3 : (0 : Rat) ≤ ((W * H : Nat) : Rat) := by exact_mod_cast Nat.zero_le _
    have hN0 : 0 ≤ (es.length : Rat) * ((1 / 2 + (B + 8) / 16777216 + 4800 / 16777216) * N + 1 / 1000000000000000000) := by
      by_cases hz : es.length = 0
      · rw [hz]; push_cast; grind
      · have : ∃ e, e ∈ es := by
          cases es with
          | nil => simp at hz
          | cons e t => exact ⟨e, by simp⟩
        obtain ⟨e, he⟩ := this
        have hr := (hE e he).2.2.1
        have hr0 : (0 : Rat) ≤ rowsE e := by
          have := heights e 0
          simp only [sumN] at this
          exact this
        have := Rat.mul_nonneg (show 0 ≤ (1 / 2 + (B + 8) / 16777216 + 4800 / 16777216 : Rat) by grind) (show 0 ≤ N by grind)
        exact Rat.mul_nonneg a2 (by grind)
    have m1 := Rat.mul_nonneg a1 hN0
    have m2 := Rat.mul_nonneg a3 (show 0 ≤ 2 * κ * (1 / 16777216) + 1 / 1000000000000000000000000000000 by grind)
    grind
  have hcells := cells_all (W := W) (H := H) (n := W * H) (B := B) hA hκ0 hκ1 es (List.replicate (W * H) 0) [] 0 (CellsBd.zero _) (by simp) (fun e he => ⟨(hE e he).1, (hE e he).2.1⟩) (fun k => by simp only [cellA]; push_cast; grind) (by rw [hoff0, hEb0]; exact Rat.le_refl) (by rw [Nat.zero_add]; exact hEκ)
  rw [Nat.zero_add, List.nil_append] at hcells
  obtain ⟨l, hl⟩ : ∃ l, l = fadds (edgesF W H es) (List.replicate (W * H) 0) := ⟨_, rfl⟩
  obtain ⟨s, hs⟩ : ∃ s, s = valL (edgesF W H es) := ⟨_, rfl⟩
  rw [← hl, ← hs] at hcells
  have hlb : CellsBd l := by
    rw [hl]
    have hbd : ∀ p ∈ edgesF W H es, Bd p.2 68 := by
      have : ∀ es' : List (Pt × Pt), (∀ e ∈ es', EF W H B e) → ∀ p ∈ edgesF W H es', Bd p.2 68 := by
        intro es' h'
        induction es' with
        | nil => intro p hp; simp [edgesF] at hp
        | cons e t ih =>
          intro p hp
          rw [edgesF, List.mem_append] at hp
          rcases hp with hp | hp
          · exact (h' e (by simp)).bd p hp
          · exact ih (fun e' he' => h' e' (by simp [he'])) p hp
      exact this es fun e he => (hE e he).1
    exact (fadds_ok _ _ (CellsBd.zero _) hbd).2
  have hll : l.length = W * H := by rw [hl, length_fadds]; simp
  -- the running sum
  obtain ⟨T, hT⟩ : ∃ T : Nat → Rat, T = fun k => sumN (cellR s) (if k ≤ W * H then k else W * H) := ⟨_, rfl⟩
  have hTk : ∀ k, k ≤ W * H → T k = sumN (cellR s) k := fun k hk => by rw [hT]; simp only; rw [if_pos hk]
  have hTS : ∀ k, k < W * H → ab (T (k + 1)) ≤ sumE (fun e => gE H B e (k / W)) es := by
    intro k hk
    rw [hTk (k + 1) (by omega), sumN_cellR, hs, sumR_edges]
    have hkW : k / W < H := by
      rw [Nat.div_lt_iff_lt_mul (by omega)]
      rw [Nat.mul_comm]
      exact hk
    have h1 := hS (k % W) (k / W) (Nat.mod_lt _ (by omega)) hkW
    have h2 : k / W * W + k % W = k := by rw [Nat.mul_comm]; exact Nat.div_add_mod k W
    rw [h2] at h1
    exact h1
  have hG1 : ∀ Y, sumE (fun e => gE H B e Y) es ≤ 100 := by
    intro Y
    have h1 := sumE_le (s := es) (f := fun e => gE H B e Y) (g := fun _ => 1) fun e he => (gE_bd hB hB1 (hE e he).2.2.2 Y).1
    rw [sumE_const] at h1
    have : (es.length : Rat) ≤ 100 := by exact_mod_cast hn
    grind
  have hT1000 : ∀ k, ab (T k) ≤ 1000 := by
    intro k
    by_cases hk0 : k = 0
    · rw [hk0, hTk 0 (by omega)]
      simp only [sumN]
      decide +kernel
    · have h1 : ∃ j, j < W * H ∧ T k = T (j + 1) := by
        by_cases hk : k ≤ W * H
        · exact ⟨k - 1, by omega, by rw [show k - 1 + 1 = k by omega]⟩
        · refine ⟨W * H - 1, by have := hp'; omega, ?_⟩
          rw [hT]
          simp only
          rw [if_neg hk, if_pos (by omega), show W * H - 1 + 1 = W * H by have := hp'; omega]
      obtain ⟨j, hj, e⟩ := h1
      rw [e]
      exact Rat.le_trans (hTS j hj) (Rat.le_trans (hG1 _) (by decide +kernel))
  have hsum : sumN (fun i => ab (V (fAt l (0 + i)) - cellR s (0 + i)) + ((ab (T (0 + i + 1)) + 2 * κ) * (1 / 16777216) + 1 / 1000000000000000000000000000000)) (Y * W + X + 1) ≤ EPS W H A B κ es.length N := by
    have h1 : sumN (fun i => ab (V (fAt l (0 + i)) - cellR s (0 + i)) + ((ab (T (0 + i + 1)) + 2 * κ) * (1 / 16777216) + 1 / 1000000000000000000000000000000)) (Y * W + X + 1) ≤
        sumN (fun i => ab (V (fAt l (0 + i)) - cellR s (0 + i)) + ((ab (T (0 + i + 1)) + 2 * κ) * (1 / 16777216) + 1 / 1000000000000000000000000000000)) (H * W) := by
      refine sumN_mono (fun i => ?_) (by omega)
      have a1 := ab_nonneg (V (fAt l (0 + i)) - cellR s (0 + i))
      have a2 := ab_nonneg (T (0 + i + 1))
      grind
    refine Rat.le_trans h1 ?_
    have h2 : sumN (fun i => ab (V (fAt l (0 + i)) - cellR s (0 + i)) + ((ab (T (0 + i + 1)) + 2 * κ) * (1 / 16777216) + 1 / 1000000000000000000000000000000)) (H * W) ≤
        sumN (fun i => ab (V (fAt l i) - cellR s i) + ((1 / 16777216) * sumE (fun e => gE H B e (i / W)) es + (2 * κ * (1 / 16777216) + 1 / 1000000000000000000000000000000))) (H * W) := by
      refine sumN_le fun i hi => ?_
      have a2 := hTS i (by rw [Nat.mul_comm]; exact hi)
      rw [Nat.zero_add]
      grind
    refine Rat.le_trans h2 ?_
    rw [sumN_add, sumN_add, sumN_mul, sumN_rows (fun Y => sumE (fun e => gE H B e Y) es) W (by omega) H, sumN_const, sumN_sumE]
    have h3 : sumN (fun i => ab (V (fAt l i) - cellR s i)) (H * W) = offL l s (W * H) := by unfold offL; rw [Nat.mul_comm]
    rw [h3]
    have h4 : sumE (fun e => sumN (gE H B e) H) es ≤ es.length * ((1 / 2 + (B + 8) / 16777216 + 4800 / 16777216) * N + 1 / 1000000000000000000) := by
      rw [← sumE_const]
      refine sumE_le fun e he => ?_
      have k1 := gE_sum (e := e) hB hH
      have k2 := Rat.mul_le_mul_of_nonneg_left (hE e he).2.2.1 (show 0 ≤ 1 / 2 + (B + 8) / 16777216 + 4800 / 16777216 by grind)
      grind
    have hW0 : (0 : Rat) ≤ (W : Rat) := by exact_mod_cast Nat.zero_le W
    have h5 := Rat.mul_le_mul_of_nonneg_left h4 hW0
    unfold EPS
    have h6 : H * W = W * H := Nat.mul_comm _ _
    rw [h6]
    generalize ((W * H : Nat) : Rat) * (2 * κ * (1 / 16777216) + 1 / 1000000000000000000000000000000) = z1 at *
    generalize (W : Rat) * sumE (fun e => sumN (gE H B e) H) es = z2 at *
    generalize (W : Rat) * ((es.length : Rat) * ((1 / 2 + (B + 8) / 16777216 + 4800 / 16777216) * N + 1 / 1000000000000000000)) = z3 at *
    grind
  obtain ⟨r1, r2⟩ := acc_near hκ0 hκ1 T (fun k => ab (V (fAt l k) - cellR s k)) (fun k => ab_nonneg _) l 0 0 (Y * W + X) 0 hlb fzero.1 (fun i hi => by
    rw [hll] at hi
    rw [Nat.zero_add, hTk (i + 1) (by omega), hTk i (by omega)]
    have : sumN (cellR s) (i + 1) - sumN (cellR s) i = cellR s i := by rw [sumN]; grind
    rw [this]
    exact Rat.le_refl) hT1000 (by rw [hTk 0 (by omega), fzero.2]; simp only [sumN]; decide +kernel) Rat.le_refl (by rw [hll]; exact hp') (by
      have e : ∀ z : Rat, 0 + z = z := fun z => by grind
      rw [e]
      exact Rat.le_trans hsum hb)
  refine ⟨accTo 0 l (Y * W + X), ?_, r1, ?_⟩
  · rw [maskR_floS W H hne, hes, ← hl]
    exact floBytes_at l 0 _ (by rw [hll]; exact hp')
  · have e : ∀ z : Rat, 0 + z = z := fun z => by grind
    have e2 : sumN (cellR s) (Y * W + X + 1) = sumE (fun e => sumR (valL (edgeF W H e)) (Y * W + X)) es := by rw [sumN_cellR, hs, sumR_edges]
    rw [e, Nat.zero_add, hTk _ (by omega), e2] at r2
    exact Rat.le_trans r2 hsum

/-! ### a path gone backward -/
theorem eps_rat {ν N w wh κ : Rat} (h0 : 0 ≤ ν) (h12 : ν ≤ 12) (hN : 0 ≤ N) (hw0 : 0 ≤ w) (hw : w ≤ 200) (hwh : wh ≤ 40000) (hκ : 0 ≤ κ) :
    (529 + 3001 / 1000 * N) * ((10003 / 10000 * (ν * (ν + 1)) + ν * κ) * (1 / 16777216) + ν * (1 / 1000000000000000000000000000000)) + w * (ν * ((1 / 2 + (265 + 8) / 16777216 + 4800 / 16777216) * N + 1 / 1000000000000000000)) * (1 / 16777216) + wh * (2 * κ * (1 / 16777216) + 1 / 1000000000000000000000000000000) ≤
      (529 * ν + 3001 / 1000 * (ν * N)) * ((1300390 / 100000 + κ) * (1 / 16777216) + 1 / 1000000000000000000000000000000) + (200 * (1 / 2 + (265 + 8) / 16777216 + 4800 / 16777216) * (ν * N) + 1 / 100000000000000) * (1 / 16777216) + 40000 * (2 * κ * (1 / 16777216) + 1 / 1000000000000000000000000000000) := by
  have hP : 0 ≤ ν * N := Rat.mul_nonneg h0 hN
  have hA : 0 ≤ 529 * ν + 3001 / 1000 * (ν * N) := by grind
  have m1 := Rat.mul_le_mul_of_nonneg_left (show ν + 1 ≤ 13 by grind) hA
  have e1 : (529 + 3001 / 1000 * N) * ((10003 / 10000 * (ν * (ν + 1)) + ν * κ) * (1 / 16777216) + ν * (1 / 1000000000000000000000000000000)) =
      (529 * ν + 3001 / 1000 * (ν * N)) * (ν + 1) * (10003 / 10000) * (1 / 16777216) + (529 * ν + 3001 / 1000 * (ν * N)) * (κ * (1 / 16777216) + 1 / 1000000000000000000000000000000) := by grind
  have e2 : (529 * ν + 3001 / 1000 * (ν * N)) * ((1300390 / 100000 + κ) * (1 / 16777216) + 1 / 1000000000000000000000000000000) =
      (529 * ν + 3001 / 1000 * (ν * N)) * 13 * (10003 / 10000) * (1 / 16777216) + (529 * ν + 3001 / 1000 * (ν * N)) * (κ * (1 / 16777216) + 1 / 1000000000000000000000000000000) := by grind
  have hq : 0 ≤ ν * ((1 / 2 + (265 + 8) / 16777216 + 4800 / 16777216) * N + 1 / 1000000000000000000) := Rat.mul_nonneg h0 (by grind)
  have m2 := Rat.mul_le_mul_of_nonneg_right hw hq
  have e3 : 200 * (ν * ((1 / 2 + (265 + 8) / 16777216 + 4800 / 16777216) * N + 1 / 1000000000000000000)) = 200 * (1 / 2 + (265 + 8) / 16777216 + 4800 / 16777216) * (ν * N) + 200 * ν / 1000000000000000000 := by grind
  rw [e3] at m2
  have m3 := Rat.mul_le_mul_of_nonneg_right hwh (show 0 ≤ 2 * κ * (1 / 16777216) + 1 / 1000000000000000000000000000000 by grind)
  rw [e1, e2]
  generalize (529 * ν + 3001 / 1000 * (ν * N)) * (ν + 1) = z1 at *
  generalize (529 * ν + 3001 / 1000 * (ν * N)) * (κ * (1 / 16777216) + 1 / 1000000000000000000000000000000) = z2 at *
  generalize w * (ν * ((1 / 2 + (265 + 8) / 16777216 + 4800 / 16777216) * N + 1 / 1000000000000000000)) = z3 at *
  generalize wh * (2 * κ * (1 / 16777216) + 1 / 1000000000000000000000000000000) = z4 at *
  grind
theorem eps_way {W H n : Nat} {N κ : Rat} (hW : W ≤ 200) (hH : H ≤ 200) (hn : n ≤ 12) (hN : 0 ≤ N) (hκ : 0 ≤ κ) :
    EPS W H (529 + 3001 / 1000 * N) 265 κ n N ≤ (529 * n + 3001 / 1000 * (n * N)) * ((1300390 / 100000 + κ) * (1 / 16777216) + 1 / 1000000000000000000000000000000) + (200 * (1 / 2 + (265 + 8) / 16777216 + 4800 / 16777216) * (n * N) + 1 / 100000000000000) * (1 / 16777216) + 40000 * (2 * κ * (1 / 16777216) + 1 / 1000000000000000000000000000000) := by
  have h1 : (W * H : Nat) ≤ 40000 := Nat.mul_le_mul hW hH
  exact eps_rat (by exact_mod_cast Nat.zero_le n) (by exact_mod_cast hn) hN (by exact_mod_cast Nat.zero_le W) (by exact_mod_cast hW) (by exact_mod_cast h1) hκ
theorem cap_neg (x : Rat) : capR (-x) = capR x := by unfold capR; rw [ab_neg]
theorem byte_rat2 {r r' c c' E : Rat} {q q' : Int} (q1 : (q : Rat) ≤ r) (q2 : r < q + 1) (p1 : (q' : Rat) ≤ r') (p2 : r' < q' + 1) (h1 : ab (r - 16777215 / 65536 * c) ≤ 1 / 50000) (h2 : ab (r' - 16777215 / 65536 * c') ≤ 1 / 50000) (hc : ab (c - c') ≤ 2 * E) (hE : 0 ≤ E) :
    ab ((q : Rat) - q') ≤ 1 + 512 * E + 1 / 20000 := by
  obtain ⟨a1, a2⟩ := ab_iff.1 h1
  obtain ⟨b1, b2⟩ := ab_iff.1 h2
  obtain ⟨c1, c2⟩ := ab_iff.1 hc
  exact ab_le (by grind) (by grind)
theorem byte_diff {a a' : Nat} {S E : Rat} (ha : F32 a) (ha' : F32 a') (h : ab (V a - S) ≤ E) (h' : ab (V a' - -S) ≤ E) : ab ((floByte a : Rat) - floByte a') ≤ 1 + 512 * E + 1 / 20000 := by
  have key : ∀ {a : Nat}, F32 a → ∃ r, ((floByte a : Int) : Rat) ≤ r ∧ r < (floByte a : Int) + 1 ∧ ab (r - 16777215 / 65536 * capR (V a)) ≤ 1 / 50000 := by
    intro a ha
    obtain ⟨_, r, h1, h2, h3, h4⟩ := floByte_ok ha
    have hp : V (fpart a) = capR (V a) := (fpart_ok ha).2
    rw [hp] at h1
    have cb := cap_bd (V a)
    obtain ⟨t1, t2, t3⟩ := truncR_pos_bd h3
    rw [← h2] at t1 t2 t3
    refine ⟨V r, t2, t3, ?_⟩
    obtain ⟨_, k⟩ := h1.near5
    have hx : ab (16777215 / 65536 * capR (V a)) ≤ 256 := ab_pos_le (Rat.mul_nonneg (by decide +kernel) cb.1) (by grind)
    grind
  obtain ⟨r, k1, k2, k3⟩ := key ha
  obtain ⟨r', j1, j2, j3⟩ := key ha'
  have hE0 : 0 ≤ E := Rat.le_trans (ab_nonneg _) h
  refine byte_rat2 k1 k2 j1 j2 k3 j3 ?_ hE0
  rw [← cap_neg (V a')]
  refine cap_near ?_
  have e : V a - -V a' = (V a - S) + (V a' - -S) := by grind
  rw [e]
  have := ab_add_le (V a - S) (V a' - -S)
  grind
theorem rows_turn (e : Pt × Pt) : rowsE (turn e) = rowsE e := by
  unfold rowsE turn imax
  simp only
  split <;> split <;> omega
theorem far_edge {e : Pt × Pt} (h : Edge17 e) : FarE 265 e := by
  have hr := (rowsE_bd h).2.1
  obtain ⟨h1, h2, h3, h4⟩ := h
  have c1 := castLe h1.1
  have c2 := castLe h1.2
  have c3 := castLe h3.1
  have c4 := castLe h3.2
  push_cast at c1 c2 c3 c4
  exact ⟨⟨by omega, by omega⟩, ⟨by omega, by omega⟩, ab_le (by grind) (by grind), ab_le (by grind) (by grind), by omega⟩
theorem way_final {b b' : Int} {M : Int} {E : Rat} (hM0 : 0 ≤ M) (h : ab ((b : Rat) - b') ≤ 1 + 512 * E + 1 / 20000) (hE : (M < 100 ∧ 512 * E ≤ 29 / 10 + 8 / 100) ∨ (100 ≤ M ∧ 512 * E ≤ 19 / 10 + 9 / 100 + (M : Rat) / 100)) : b - b' ≤ 3 + M / 100 ∧ b' - b ≤ 3 + M / 100 := by
  obtain ⟨h1, h2⟩ := ab_iff.1 h
  have hd := castLe (show M ≤ 100 * (M / 100) + 99 by omega)
  push_cast at hd
  obtain ⟨F, hF⟩ : ∃ F, F = M / 100 := ⟨_, rfl⟩
  rw [← hF] at hd ⊢
  have key : 1 + 512 * E + 1 / 20000 < (4 : Rat) + F := by
    rcases hE with ⟨c, hE⟩ | ⟨c, hE⟩
    · have hF0 : (0 : Rat) ≤ F := by
        have := castLe (show 0 ≤ F by omega)
        rwa [cast_zero] at this
      grind
    · grind
  have k1 : ((b - b' : Int) : Rat) < ((4 + F : Int) : Rat) := by push_cast; grind
  have k2 : ((b' - b : Int) : Rat) < ((4 + F : Int) : Rat) := by push_cast; grind
  have k3 := Rat.intCast_lt_intCast.1 k1
  have k4 := Rat.intCast_lt_intCast.1 k2
  omega
/-- A path gone backward covers the same. -/
theorem way_near {W H : Nat} (hW1 : 1 ≤ W) (hW : W ≤ 200) (hH : H ≤ 200) {p : List Pt} (hp : p ≠ []) (h12 : p.length ≤ 12) (hf : Far p 16896) {X Y : Nat} (hX : X < W) (hY : Y < H) :
    ∃ b b', (maskR true W H (pathOps p))[Y * W + X]? = some b ∧ (maskR true W H (pathOps p.reverse))[Y * W + X]? = some b' ∧ 0 ≤ b ∧ b ≤ 255 ∧ 0 ≤ b' ∧ b' ≤ 255 ∧
      b - b' ≤ 3 + rowsAll (edges p) 0 * p.length / 100 ∧ b' - b ≤ 3 + rowsAll (edges p) 0 * p.length / 100 := by
  have e1 : [p].flatMap edges = edges p := by simp
  have e2 : [p].flatMap pathOps = pathOps p := by simp
  have f1 : [p.reverse].flatMap edges = edges p.reverse := by simp
  have f2 : [p.reverse].flatMap pathOps = pathOps p.reverse := by simp
  have h17 : ∀ e ∈ edges p, Edge17 e := by
    have := edge17_of (ps := [p]) (by intro q hq; rw [List.mem_singleton] at hq; subst hq; exact hf)
    rwa [e1] at this
  obtain ⟨r0, r1⟩ := rowsAll_bd h17
  have hN0 := castLe r0
  rw [cast_zero] at hN0
  have hN1 := castLe r1
  push_cast at hN1
  have hmem : ∀ e ∈ edges p, (rowsE e : Rat) ≤ (rowsAll (edges p) 0 : Rat) := fun e he => castLe (rowsAll_mem he)
  have hfacts : ∀ e, Edge17 e → (rowsE e : Rat) ≤ (rowsAll (edges p) 0 : Rat) → EF W H 265 e ∧ ((edgeF W H e).length : Rat) ≤ 529 + 3001 / 1000 * (rowsAll (edges p) 0 : Rat) ∧ (rowsE e : Rat) ≤ (rowsAll (edges p) 0 : Rat) ∧ rowsE e ≤ 2000 := by
    intro e h hr
    have k := edge_facts (W := W) (H := H) (by omega) (by decide +kernel) (by decide +kernel) (far_edge h)
    refine ⟨k, ?_, hr, by have := (rowsE_bd h).2.1; omega⟩
    have := k.len
    have hr0 := castLe (rowsE_bd h).1
    push_cast at hr0
    grind
  obtain ⟨M, hM⟩ : ∃ M : Int, M = rowsAll (edges p) 0 * p.length := ⟨_, rfl⟩
  have hM0 : 0 ≤ M := by rw [hM]; exact Int.mul_nonneg r0 (by omega)
  have hMR : (M : Rat) = (p.length : Rat) * (rowsAll (edges p) 0 : Rat) := by rw [hM]; push_cast; grind
  have hM1 : M ≤ 6348 := by
    rw [hM]
    have a1 := Int.mul_le_mul_of_nonneg_right r1 (show (0 : Int) ≤ p.length by omega)
    omega
  have hn12 : (p.length : Rat) ≤ 12 := by exact_mod_cast h12
  have hnn : (0 : Rat) ≤ (p.length : Rat) := by exact_mod_cast Nat.zero_le _
  have hMc := castLe hM1
  have hMc0 := castLe hM0
  rw [cast_zero] at hMc0
  push_cast at hMc
  -- which bound
  obtain ⟨κ, hκ0, hκ1, hb, hE⟩ : ∃ κ : Rat, 0 ≤ κ ∧ κ ≤ 1 ∧ EPS W H (529 + 3001 / 1000 * (rowsAll (edges p) 0 : Rat)) 265 κ p.length (rowsAll (edges p) 0) ≤ κ ∧
      ((M < 100 ∧ 512 * EPS W H (529 + 3001 / 1000 * (rowsAll (edges p) 0 : Rat)) 265 κ p.length (rowsAll (edges p) 0) ≤ 29 / 10 + 8 / 100) ∨ (100 ≤ M ∧ 512 * EPS W H (529 + 3001 / 1000 * (rowsAll (edges p) 0 : Rat)) 265 κ p.length (rowsAll (edges p) 0) ≤ 19 / 10 + 9 / 100 + (M : Rat) / 100)) := by
    by_cases hs : M ≤ 500
    · have hsc := castLe hs
      push_cast at hsc
      have k := eps_way (W := W) (H := H) (n := p.length) (N := (rowsAll (edges p) 0 : Rat)) (κ := 1 / 100) hW hH h12 hN0 (by decide +kernel)
      rw [← hMR] at k
      refine ⟨1 / 100, by decide +kernel, by decide +kernel, by grind, ?_⟩
      by_cases hc : M < 100
      · have hcc := castLe (show M ≤ 99 by omega)
        push_cast at hcc
        exact .inl ⟨hc, by grind⟩
      · have hcc := castLe (show 100 ≤ M by omega)
        push_cast at hcc
        exact .inr ⟨by omega, by grind⟩
    · have hcc := castLe (show 501 ≤ M by omega)
      push_cast at hcc
      have k := eps_way (W := W) (H := H) (n := p.length) (N := (rowsAll (edges p) 0 : Rat)) (κ := 1 / 10) hW hH h12 hN0 (by decide +kernel)
      rw [← hMR] at k
      exact ⟨1 / 10, by decide +kernel, by decide +kernel, by grind, .inr ⟨by omega, by grind⟩⟩
  have hrl : (edges p.reverse).length = p.length := by rw [length_edges]; simp
  have hel : (edges p).length = p.length := length_edges p
  have hpr : p.reverse ≠ [] := by simpa using hp
  obtain ⟨a, m1, m2, m3⟩ := flo_sum (W := W) (H := H) (A := 529 + 3001 / 1000 * (rowsAll (edges p) 0 : Rat)) (B := 265) (κ := κ) (N := (rowsAll (edges p) 0 : Rat)) (ps := [p]) hW1 hH (by grind) (by decide +kernel) (by decide +kernel) hκ0 hκ1 (by simpa using hp) (by rw [e1, hel]; omega)
    (by rw [e1]; exact fun e he => hfacts e (h17 e he) (hmem e he)) (by rw [e1, hel]; exact hb) hX hY
  obtain ⟨a', n1, n2, n3⟩ := flo_sum (W := W) (H := H) (A := 529 + 3001 / 1000 * (rowsAll (edges p) 0 : Rat)) (B := 265) (κ := κ) (N := (rowsAll (edges p) 0 : Rat)) (ps := [p.reverse]) hW1 hH (by grind) (by decide +kernel) (by decide +kernel) hκ0 hκ1 (by simpa using hp) (by rw [f1, hrl]; omega)
    (by
      rw [f1]
      intro e he
      obtain ⟨e', h1, rfl⟩ := mem_back hp he
      have h2 := h17 e' h1
      refine hfacts _ ?_ ?_
      · unfold Edge17 turn at *
        exact ⟨h2.2.2.1, h2.2.2.2, h2.1, h2.2.1⟩
      · rw [rows_turn]
        exact hmem e' h1) (by rw [f1, hrl]; exact hb) hX hY
  rw [e1, hel] at m3
  rw [f1, hrl, sumE_back _ hp] at n3
  have hneg : sumE (fun e => sumR (valL (edgeF W H (turn e))) (Y * W + X)) (edges p) = -sumE (fun e => sumR (valL (edgeF W H e)) (Y * W + X)) (edges p) := by
    rw [← sumE_neg]
    refine sumE_congr fun e he => ?_
    have h := far_edge (h17 e he)
    exact edge_opp W H h.s1 h.s2 _
  rw [hneg] at n3
  rw [e2] at m1
  rw [f2] at n1
  obtain ⟨p1, p2, _⟩ := floByte_near m2
  obtain ⟨q1, q2, _⟩ := floByte_near n2
  have hd := byte_diff m2 n2 m3 n3
  rw [← hM]
  obtain ⟨d1, d2⟩ := way_final hM0 hd hE
  exact ⟨_, _, m1, n1, p1, p2, q1, q2, d1, d2⟩
end Go.Proofs.Ytmgcbodlolnheaa
