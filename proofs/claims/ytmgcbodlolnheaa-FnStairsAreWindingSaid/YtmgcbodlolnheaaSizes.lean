/-
  'laws.FnSizes' returns true for every input (no condition).
-/
import Derived.Test.YtmgcbodlolnheaaNew
namespace Go.Proofs.Ytmgcbodlolnheaa
open Go.ChangeShapes Go.WideShapes Go.ChangeAt Go.RowKit

/-- Is it a size of which the statements speak? -/
def sizedB (W H : Int) : Bool := decide (1 ≤ W ∧ W ≤ 2000 ∧ 1 ≤ H ∧ H ≤ 2000 ∧ W * H ≤ 65536)
theorem sizedB_iff {W H : Int} : sizedB W H = true ↔ (1 ≤ W ∧ W ≤ 2000 ∧ 1 ≤ H ∧ H ≤ 2000 ∧ W * H ≤ 65536) := by simp [sizedB]
theorem mul_pos_le {W H : Int} (h : 1 ≤ W) (h' : 1 ≤ H) : 1 ≤ W * H := by
  have := Int.mul_le_mul h h' (by omega) (by omega)
  omega
theorem mul_le_big {W H : Int} (a : 0 ≤ W) (a' : W ≤ 2000) (b : 0 ≤ H) (b' : H ≤ 2000) : 0 ≤ W * H ∧ W * H ≤ 4000000 :=
  ⟨Int.mul_nonneg a b, by have := Int.mul_le_mul a' b' b (by omega); omega⟩

theorem sized_any (W H : Int) (w : World) :
    Calls Try.prog 15 #[.int .i64 W, .int .i64 H] w fun e w' => e = .returned (.bool (sizedB W H)) ∧ w = w' := by
  by_cases h0 : 1 ≤ W
  · by_cases h1 : W ≤ 2000
    · by_cases h2 : 1 ≤ H
      · by_cases h3 : H ≤ 2000
        · have hm := mul_le_big (W := W) (H := H) (by omega) h1 (by omega) h3
          obtain ⟨hm0, hm1⟩ := hm
          have e : sizedB W H = decide (W * H ≤ 65536) := by simp [sizedB, h0, h1, h2, h3]
          rw [e]
          clear e
          go_enter Try.func15, Try.ntmps15
          go_wp2
          go_ret
          exact ⟨rfl, rfl⟩
        · have e : sizedB W H = false := by simp [sizedB, h3]
          have g : decide (H ≤ 2000) = false := by simpa using h3
          rw [e]
          clear e
          go_enter Try.func15, Try.ntmps15
          go_wp2
          go_ret
          exact ⟨rfl, rfl⟩
      · have e : sizedB W H = false := by simp [sizedB, h2]
        have g : decide (1 ≤ H) = false := by simpa using h2
        rw [e]
        clear e
        go_enter Try.func15, Try.ntmps15
        go_wp2
        go_ret
        exact ⟨rfl, rfl⟩
    · have e : sizedB W H = false := by simp [sizedB, h1]
      have g : decide (W ≤ 2000) = false := by simpa using h1
      rw [e]
      clear e
      go_enter Try.func15, Try.ntmps15
      go_wp2
      go_ret
      exact ⟨rfl, rfl⟩
  · have e : sizedB W H = false := by simp [sizedB, h0]
    have g : decide (1 ≤ W) = false := by simpa using h0
    rw [e]
    clear e
    go_enter Try.func15, Try.ntmps15
    go_wp2
    go_ret
    exact ⟨rfl, rfl⟩

theorem size_any (b : Nat) (W H : Int) (w : World) (c3 : w.cell? ⟨b, 3, none⟩ = some (.int .i64 W)) (c4 : w.cell? ⟨b, 4, none⟩ = some (.int .i64 H)) (hlt : b < w.heap.size) :
    Calls Try.prog 37 #[.pointer (some ⟨b, 0, none⟩)] w fun e w' => e = .returned (.agg #[.int .i64 W, .int .i64 H]) ∧ Below w.heap.size w w' := by
  go_enter Try.func37, Try.ntmps37
  go_wp2
  refine bodyPost_ret (v := .agg #[.int .i64 W, .int .i64 H]) (by simp [results, Try.results37, go_sem]) rfl ⟨rfl, ?_⟩
  exact (Below.refl _ _).alloc (Nat.le_refl _) _
theorem bounds_any (b : Nat) (W H : Int) (w : World) (c3 : w.cell? ⟨b, 3, none⟩ = some (.int .i64 W)) (c4 : w.cell? ⟨b, 4, none⟩ = some (.int .i64 H)) (hlt : b < w.heap.size) :
    Calls Try.prog 38 #[.pointer (some ⟨b, 0, none⟩)] w fun e w' => e = .returned (.agg #[.int .i64 0, .int .i64 0, .int .i64 W, .int .i64 H]) ∧ Below w.heap.size w w' := by
  go_enter Try.func38, Try.ntmps38
  go_wp2
  refine bodyPost_ret (v := .agg #[.int .i64 0, .int .i64 0, .int .i64 W, .int .i64 H]) (by simp [results, Try.results38, go_sem]) rfl ⟨rfl, ?_⟩
  exact (Below.refl _ _).alloc (Nat.le_refl _) _

set_option maxRecDepth 100000 in
theorem sizes_any (n : Nat) (W H : Int) (hn : W * H = n) (h1 : 1 ≤ n) (h2 : n ≤ 65536) (w : World) :
    Calls Try.prog 16 #[.int .i64 W, .int .i64 H] w fun e w' => e = .returned (.tuple #[.int .i64 W, .int .i64 H, .int .i64 0, .int .i64 0, .int .i64 W, .int .i64 H]) ∧ Below w.heap.size w w' := by
  have HN := hid hn
  clear hn
  go_enter Try.func16, Try.ntmps16
  go_wp2_with fail
  refine (new_any n W H HN.out h1 h2 w).mono ?_
  rintro e w1 ⟨b, g, rfl, hb, hg, hf, hk⟩
  have hc : w1.cell? ⟨b, 3, none⟩ = some (.int .i64 W) ∧ w1.cell? ⟨b, 4, none⟩ = some (.int .i64 H) ∧ b < w1.heap.size := by
    revert hf
    unfold Fresh
    cases decide (512 < W ∨ 512 < H)
    all_goals
      intro hf
      obtain ⟨_, _, _, c3, c4, _⟩ := rz_cells hf.1
      exact ⟨c3, c4, hf.1.lt⟩
  obtain ⟨c3, c4, hlt⟩ := hc
  have HK := hid hk
  clear hf hg hk
  go_wp2_with fail
  refine (size_any b W H w1 c3 c4 hlt).mono ?_
  rintro e w2 ⟨rfl, hk2⟩
  have d3 := hk2.cell (p := ⟨b, 3, none⟩) hlt
  have d4 := hk2.cell (p := ⟨b, 4, none⟩) hlt
  rw [c3] at d3
  rw [c4] at d4
  have hlt2 : b < w2.heap.size := Nat.lt_of_lt_of_le hlt hk2.size
  have HK2 := hid hk2
  clear c3 c4 hk2
  go_wp2_with fail
  refine (bounds_any b W H w2 d3 d4 hlt2).mono ?_
  rintro e w3 ⟨rfl, hk3⟩
  have HK3 := hid hk3
  clear hk3 d3 d4 hlt2
  go_wp2
  go_quiet (fail)
  go_wp2
  refine bodyPost_ret (v := .tuple #[.int .i64 W, .int .i64 H, .int .i64 0, .int .i64 0, .int .i64 W, .int .i64 H]) (by simp [results, Try.results16, go_sem]) rfl ⟨rfl, ?_⟩
  have h3 : Below w.heap.size w w3 := (HK.out.toBelow.trans (HK2.out.mono HK.out.size)).trans (HK3.out.mono (Nat.le_trans HK.out.size HK2.out.size))
  exact below_drewN ((h3.alloc h3.size _).alloc (by have := h3.size; simp; omega) _) _

end Go.Proofs.Ytmgcbodlolnheaa
