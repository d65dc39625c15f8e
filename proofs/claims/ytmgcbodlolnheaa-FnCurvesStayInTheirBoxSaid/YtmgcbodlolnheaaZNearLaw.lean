/-
  An argument of type [][][2]int, opened; 'laws.zzFits2' and 'laws.several': contracts.
  'laws.slack' and 'laws.near': contracts.
  'laws.drift' and 'laws.alike': numbers and contracts.
-/
import Derived.Test.YtmgcbodlolnheaaZStOps
import Derived.Test.YtmgcbodlolnheaaZEqual
import Derived.Test.YtmgcbodlolnheaaZAreaLaw
namespace Go.Proofs.Ytmgcbodlolnheaa
open Go.ChangeShapes Go.WideShapes Go.ChangeAt Go.RowKit Go.Deep
set_option linter.unusedVariables false

/-- Rows of points, one behind the other. -/
def RowsCells (w : World) (B g off : Nat) (ls : List (List (Int × Int))) : Prop :=
  g < B ∧ ∀ j, (h : j < ls.length) → ∃ pv, w.cell? ⟨g, off + j, none⟩ = some pv ∧ PtsAt w B pv ls[j]
def RowsAt (w : World) (B : Nat) (v : Value) (ls : List (List (Int × Int))) : Prop :=
  ∃ (A : Option Addr) (cap : Nat), v = .slice A ls.length cap ∧ ls.length ≤ 9223372036854775807 ∧ (0 < ls.length → ∃ g off, A = some ⟨g, off, none⟩ ∧ RowsCells w B g off ls)
theorem RowsCells.kept {S : Nat → Prop} {w w' : World} {B g off : Nat} {ls : List (List (Int × Int))} (h : RowsCells w B g off ls) (hk : Kept S w w') (hB : B ≤ w.heap.size) (hS : ∀ k, k < B → ¬ S k) : RowsCells w' B g off ls := by
  refine ⟨h.1, fun j hj => ?_⟩
  obtain ⟨pv, a, b⟩ := h.2 j hj
  have hg : g < w.heap.size := Nat.lt_of_lt_of_le h.1 hB
  exact ⟨pv, by rw [hk.cell hg (hS _ h.1)]; exact a, b.kept hk hB hS⟩
def fitRows (ls : List (List (Int × Int))) : Bool := ls.all fun o => decide (o.length ≤ 2147483647)
theorem fitRows_take {ls : List (List (Int × Int))} {k : Nat} (h : k < ls.length) (a : fitRows (ls.take k) = true) (b : (ls[k]).length ≤ 2147483647) : fitRows (ls.take (k + 1)) = true := by
  unfold fitRows at *
  rw [List.take_succ_eq_append_getElem h, List.all_append, a]
  simpa using b
theorem fitRows_far {ls : List (List (Int × Int))} {k : Nat} (h : k < ls.length) (b : ¬ (ls[k]).length ≤ 2147483647) : fitRows ls = false := by
  unfold fitRows
  rw [List.all_eq_false]
  exact ⟨ls[k], List.getElem_mem h, by simpa using b⟩
set_option maxHeartbeats 1000000 in
set_option maxRecDepth 100000 in
theorem fits2_cons (ls : List (List (Int × Int))) (g off cap : Nat) (w : World) (hpos : 0 < ls.length) (hfit : ls.length ≤ 2147483647) (hp : RowsCells w w.heap.size g off ls) :
    Calls Try.prog 26 #[.slice (some ⟨g, off, none⟩) ls.length cap] w fun e w' => e = .returned (.bool (fitRows ls)) ∧ w = w' := by
  have HP := hid hp
  have h0 : ¬ (2147483647 : Int) < ls.length := by omega
  clear hp
  go_enter Try.func26, Try.ntmps26
  go_wp2_with fail
  go_loop [10] (fun i => ∃ k : Nat, k ≤ ls.length ∧ i = .int .i64 k ∧ fitRows (ls.take k) = true) (fun i => ls.length - (intOf i).toNat)
  case atStart => exact ⟨0, Nat.zero_le _, rfl, rfl⟩
  case round =>
    obtain ⟨k, hk, rfl, hn⟩ := hrel
    have HN := hid hn
    clear hn
    by_cases hlt : k < ls.length
    · obtain ⟨pv, c1, c2⟩ := HP.out.2 k hlt
      have hg : g < w.heap.size := HP.out.1
      have hnear := fun b => fitRows_take hlt HN.out b
      have hfar := fun b => fitRows_far hlt b
      generalize ls[k] = op at c2 hnear hfar
      obtain ⟨A, pcap, rfl, hl, _⟩ := id c2
      have HNE := hid hnear
      have HFA := hid hfar
      clear c2 hnear hfar
      by_cases hb : op.length ≤ 2147483647
      · have HNX := hid (HNE.out hb)
        have hb' : ¬ (2147483647 : Int) < op.length := by omega
        clear hb
        go_wp2_with fail
        go_round
        case measure => simp [intOf]; omega
        case rel => exact ⟨k + 1, by omega, by go_num, HNX.out⟩
      · have HF := hid (HFA.out hb)
        have hb' : (2147483647 : Int) < op.length := by omega
        clear hb
        go_wp2_with fail
        go_ret
        exact ⟨by rw [HF.out]; rfl, rfl⟩
    · obtain rfl : k = ls.length := by omega
      rw [List.take_of_length_le (Nat.le_refl _)] at HN
      go_wp2_with fail
      go_ret
      exact ⟨by rw [HN.out]; rfl, rfl⟩
theorem fits2_long (A : Option Addr) (n cap : Nat) (w : World) (h : (2147483647 : Int) < n) :
    Calls Try.prog 26 #[.slice A n cap] w fun e w' => e = .returned (.bool false) ∧ w = w' := by
  go_enter Try.func26, Try.ntmps26
  go_wp2_with fail
  go_ret
  exact ⟨rfl, rfl⟩
theorem fits2_none (A : Option Addr) (cap : Nat) (w : World) :
    Calls Try.prog 26 #[.slice A 0 cap] w fun e w' => e = .returned (.bool true) ∧ w = w' := by
  go_enter Try.func26, Try.ntmps26
  go_wp2_with fail
  go_loop [10] (fun i => i = .int .i64 0) (fun i => 0)
  case atStart => rfl
  case round =>
    subst hrel
    go_wp2_with fail
    go_ret
    exact ⟨rfl, rfl⟩
def fits2B (ls : List (List (Int × Int))) : Bool := decide (ls.length ≤ 2147483647) && fitRows ls
theorem fits2_any (ls : List (List (Int × Int))) (v : Value) (w : World) (h : RowsAt w w.heap.size v ls) : Calls Try.prog 26 #[v] w fun e w' => e = .returned (.bool (fits2B ls)) ∧ w = w' := by
  obtain ⟨A, cap, rfl, hl, ha⟩ := h
  unfold fits2B
  by_cases hb : ls.length ≤ 2147483647
  · rw [decide_eq_true hb, Bool.true_and]
    cases ls with
    | nil => exact fits2_none A cap w
    | cons a t =>
      obtain ⟨g, off, rfl, hc⟩ := ha (by simp)
      exact fits2_cons (a :: t) g off cap w (by simp) hb hc
  · rw [decide_eq_false hb, Bool.false_and]
    exact fits2_long A ls.length cap w (by omega)
section
variable {H : Type} {enc : TypeId × Value → H} {w : World} {spare : Nat → Bool} {held : Bool}
set_option maxRecDepth 100000 in
theorem open_rowsT {r : Reach} {b0 : Nat} {v : Value} {d : DataW H} {p : List MemPlace} (hv : Value.okWide Try.prog w r b0 45 v) (h0 : DataW.Trod enc Try.prog w 0 spare held 45 v d p) : ∃ ls, RowsAt w w.heap.size v ls := by
  obtain ⟨a0, len0, cap0, rfl⟩ := okWide_slice Try.underlying45 hv
  obtain ⟨fuel, hf0⟩ := h0
  have h : DataW.trod enc Try.prog w 0 spare held fuel 45 [.slice a0 len0 cap0] = some (d, p) := by simpa [Value.cells] using hf0
  rcases open_slice1 Try.underlying45 cellsOf27 h with ⟨hcs, _⟩ | ⟨a, len, cap, m, n, V, D, Pl, hcs, hb, hl, hm, hmm, hx, hi⟩
  · simp only [List.cons.injEq, and_true] at hcs
    exact ⟨[], none, 0, hcs, by simp, fun h => by simp at h⟩
  · simp only [List.cons.injEq, and_true] at hcs
    rw [hcs]
    have hlm : len ≤ m := by rw [hmm]; split <;> omega
    have hel : ∀ i, i < len → ∃ ps : List (Int × Int), w.cell? (a.add i) = some (V i) ∧ PtsAt w w.heap.size (V i) ps := by
      intro i hil
      obtain ⟨hc, ht⟩ := hi i (by omega)
      obtain ⟨ps, hps⟩ := open_pts ht
      exact ⟨ps, hc, hps⟩
    obtain ⟨f, hfa⟩ := choose_lt (α := List (Int × Int)) hel
    refine ⟨(List.range len).map f, some a, cap, by simp, by simp; unfold maxLen at hm; omega, fun hp => ?_⟩
    have hp' : 0 < len := by simpa using hp
    have h00 := (hfa 0 hp').1
    obtain ⟨b, off, rfl⟩ := addr_plain h00
    rw [add_plain] at h00
    refine ⟨b, off, rfl, block_lt h00, fun j hj => ?_⟩
    have hj' : j < len := by simpa using hj
    obtain ⟨x0, x2⟩ := hfa j hj'
    rw [add_plain] at x0
    simp only [List.getElem_map, List.getElem_range]
    exact ⟨V j, x0, x2⟩
end

/-! ### several -/
@[local go_sem ↓] theorem run_minS {P : Program} {w : World} (ts : Array TypeId) (t : TypeId) (k k1 : IntKind) (x y : Int) : (Builtin.min_ ts t #[.int k x, .int k1 y]).run P w = .ok (.int k (imin x y)) w := by
  have e : imin x y = if y < x then y else x := by unfold imin; split <;> split <;> omega
  rw [e]
  simp [Builtin.min_, Builtin.min2]
/-! ### any arguments -/
end Go.Proofs.Ytmgcbodlolnheaa

namespace Go.Proofs.Ytmgcbodlolnheaa
open Go.ChangeShapes Go.WideShapes Go.ChangeAt Go.RowKit Go.Deep
set_option linter.unusedVariables false

@[local go_sem ↓] theorem run_maxS {P : Program} {w : World} (ts : Array TypeId) (t : TypeId) (k k1 : IntKind) (x y : Int) : (Builtin.max_ ts t #[.int k x, .int k1 y]).run P w = .ok (.int k (imax x y)) w := by
  have e : imax x y = if x < y then y else x := by unfold imax; split <;> split <;> omega
  rw [e]
  simp [Builtin.max_, Builtin.max2]
/-! ### laws.near -/
theorem idx_in2 {W H x y : Nat} (hy : y < H) (hx : x < W) : y * W + x < W * H := by
  have h1 : (y + 1) * W ≤ H * W := Nat.mul_le_mul_right W hy
  rw [Nat.add_mul, Nat.one_mul, Nat.mul_comm H W] at h1
  omega
end Go.Proofs.Ytmgcbodlolnheaa

namespace Go.Proofs.Ytmgcbodlolnheaa
open Flt
open Go.ChangeShapes Go.WideShapes Go.ChangeAt Go.RowKit Go.Deep
set_option linter.unusedVariables false

/-! ### numbers -/
/-! ### contracts -/
@[local go_sem ↓] theorem run_maxD {P : Program} {w : World} (ts : Array TypeId) (t : TypeId) (k k1 : IntKind) (x y : Int) : (Builtin.max_ ts t #[.int k x, .int k1 y]).run P w = .ok (.int k (imax x y)) w := by
  have e : imax x y = if x < y then y else x := by unfold imax; split <;> split <;> omega
  rw [e]
  simp [Builtin.max_, Builtin.max2]
end Go.Proofs.Ytmgcbodlolnheaa
