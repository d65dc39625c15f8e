/-
  'fixedAccumulateOpSrc': from the buffer to the bytes of the mask.
-/
import Derived.Test.YtmgcbodlolnheaaOps
import Derived.Laws.OwnMore
namespace Go.Proofs.Ytmgcbodlolnheaa
open Go.ChangeShapes Go.WideShapes Go.ChangeAt Go.RowKit
set_option linter.unusedVariables false

/-- Cells of bytes. -/
def byteCells (l : List Int) : Array Value := (l.map (Value.int .u8)).toArray
theorem byteCells_set {l : List Int} {k : Nat} (v : Int) : (byteCells l).setIfInBounds k (.int .u8 v) = byteCells (l.set k v) := by
  unfold byteCells
  apply Array.ext'
  simp
theorem byteCells_made (n : Nat) : madeCells #[.int .u8 0] n = byteCells (List.replicate n 0) := by
  unfold byteCells
  apply Array.ext'
  rw [toList_madeCells_one]
  simp

/-- A sum of the fixed kind as a byte. -/
def fixByte (acc : Int) : Int :=
  if acc < 0 then (if 255 < wrap32 (-acc) / 1024 then 255 else (wrap32 (-acc) / 1024) % 256)
  else (if 255 < acc / 1024 then 255 else (acc / 1024) % 256)
/-- The bytes behind a buffer, the sum so far being acc. -/
def fixBytes : Int → List Int → List Int
  | _, [] => []
  | acc, v :: t => fixByte (wrap32 (acc + wrap32 v)) :: fixBytes (wrap32 (acc + wrap32 v)) t
theorem length_fixBytes : ∀ (acc : Int) (l : List Int), (fixBytes acc l).length = l.length
  | _, [] => rfl
  | acc, v :: t => by simp [fixBytes, length_fixBytes]
theorem fixBytes_drop {l : List Int} {k : Nat} (h : k < l.length) (acc : Int) :
    fixBytes acc (l.drop k) = fixByte (wrap32 (acc + wrap32 (bufAt l k))) :: fixBytes (wrap32 (acc + wrap32 (bufAt l k))) (l.drop (k + 1)) := by
  have e : l.drop k = bufAt l k :: l.drop (k + 1) := by
    rw [List.drop_eq_getElem_cons h]
    simp [bufAt, List.getD, h]
  rw [e, fixBytes]
theorem take_set_succ {D : List Int} {k : Nat} (h : k < D.length) (v : Int) : (D.set k v).take (k + 1) = D.take k ++ [v] := by
  rw [List.take_succ_eq_append_getElem (by simpa using h)]
  rw [List.take_set_of_le (Nat.le_refl _)]
  simp

section
variable {w : World} {d : Nat} {D : List Int}
theorem byte_blk (h : Blk w d 5 (byteCells D)) (k : Nat) (v : Int) : Blk (w.setCell ⟨d, k, none⟩ (.int .u8 v)) d 5 (byteCells (D.set k v)) := by
  have := h.set_ k (.int .u8 v)
  rwa [byteCells_set] at this
theorem byte_cell (h : Blk w d 5 (byteCells D)) {k : Nat} (hk : k < D.length) : w.cell? ⟨d, k, none⟩ = some (.int .u8 (D.getD k 0)) := by
  rw [h.cell]
  simp [byteCells, hk, List.getD]
end

section
variable {acc : Int}
theorem fixByte_1 (h : acc < 0) (h' : 255 < wrap32 (-acc) / 1024) : fixByte acc = 255 := by simp [fixByte, h, h']
theorem fixByte_2 (h : acc < 0) (h' : wrap32 (-acc) / 1024 ≤ 255) : fixByte acc = wrap32 (-acc) / 1024 % 256 := by simp [fixByte, h, Int.not_lt.2 h']
theorem fixByte_3 (h : 0 ≤ acc) (h' : 255 < acc / 1024) : fixByte acc = 255 := by simp [fixByte, Int.not_lt.2 h, h']
theorem fixByte_4 (h : 0 ≤ acc) (h' : acc / 1024 ≤ 255) : fixByte acc = acc / 1024 := by simp [fixByte, Int.not_lt.2 h, Int.not_lt.2 h']; omega
end
theorem fix_round {w wr : World} {d n k : Nat} {acc : Int} {D' l : List Int} (hk : k ≤ n) (hlt : k < n) (q1 : D'.length = n) (hl : l.length = n) (q2 : D'.take k ++ fixBytes acc (l.drop k) = fixBytes 0 l)
    (q3 : Blk wr d 5 (byteCells D')) (q4 : Kept (· = d) w wr) (v : Int) (hv : fixByte (wrap32 (acc + wrap32 (bufAt l k))) = v) :
    ∃ (k_1 : Nat) (acc_1 : Int) (D'_1 : List Int), k_1 ≤ n ∧ Value.int .i64 ((k : Int) + 1) = .int .i64 k_1 ∧ Value.int .i32 (wrap32 (acc + wrap32 (bufAt l k))) = .int .i32 acc_1 ∧ D'_1.length = n ∧
      D'_1.take k_1 ++ fixBytes acc_1 (l.drop k_1) = fixBytes 0 l ∧ Blk (wr.setCell ⟨d, k, none⟩ (.int .u8 v)) d 5 (byteCells D'_1) ∧ Kept (· = d) w (wr.setCell ⟨d, k, none⟩ (.int .u8 v)) := by
  refine ⟨k + 1, _, D'.set k v, by omega, by simp, rfl, by simpa using q1, ?_, byte_blk q3 k v, q4.set_in rfl⟩
  rw [take_set_succ (by omega), ← q2, fixBytes_drop (k := k) (by omega) acc, hv]
  simp

set_option maxHeartbeats 1000000 in
set_option maxRecDepth 100000 in
theorem accFix_any (d g n : Nat) (D l : List Int) (rest : List Value) (w : World) (hd : Blk w d 5 (byteCells D)) (hD : D.length = n) (hg : Blk w g 100 (bufCells l rest)) (hl : l.length = n)
    (hn : n ≤ 100000) (hcap : n + rest.length ≤ 100000) :
    Calls Try.prog 55 #[.slice (some ⟨d, 0, none⟩) n n, .slice (some ⟨g, 0, none⟩) n (n + rest.length)] w fun e w' => e = .returned (.tuple #[]) ∧
      Blk w' d 5 (byteCells (fixBytes 0 l)) ∧ Kept (· = d) w w' := by
  have hne : g ≠ d := hg.ne_ hd (by decide)
  have HD := hid hd
  have HG := hid hg
  have HL := hid hl
  have HDL := hid hD
  have hno : ¬ n < n := by omega
  clear hd hg hl hD
  go_enter Try.func55, Try.ntmps55
  go_wp2
  go_loopw [4, 15] (fun a i wr => ∃ (k : Nat) (acc : Int) (D' : List Int), k ≤ n ∧ i = .int .i64 k ∧ a = .int .i32 acc ∧ D'.length = n ∧ D'.take k ++ fixBytes acc (l.drop k) = fixBytes 0 l ∧ Blk wr d 5 (byteCells D') ∧ Kept (· = d) w wr) (fun _ i _ => n - (intOf i).toNat)
  case atStart => exact ⟨0, 0, D, Nat.zero_le _, rfl, rfl, HDL.out, by simp, HD.out, Kept.refl _ _⟩
  case round =>
    obtain ⟨k, acc, D', hk, rfl, rfl, q1, q2, q3, q4⟩ := hrel
    by_cases hlt : k < n
    · have hgw := q4.blk HG.out hne
      have c1 := buf_cell hgw (k := k) (by have := HL.out; omega)
      have c2 := byte_cell q3 (k := k) (by omega)
      have c3 := q3.frozen k
      go_wp2
      all_goals
        go_roundw
        case measure => simp [intOf]; omega
        case rel =>
          first
          | exact fix_round hk hlt q1 HL.out q2 q3 q4 _ (fixByte_1 (by assumption) (by assumption))
          | exact fix_round hk hlt q1 HL.out q2 q3 q4 _ (fixByte_2 (by assumption) (by assumption))
          | exact fix_round hk hlt q1 HL.out q2 q3 q4 _ (fixByte_3 (by assumption) (by assumption))
          | exact fix_round hk hlt q1 HL.out q2 q3 q4 _ (fixByte_4 (by assumption) (by assumption))
    · obtain rfl : k = n := by omega
      have hz : fixBytes acc (l.drop k) = [] := by rw [List.drop_of_length_le (by have := HL.out; omega)]; rfl
      have hD2 : D' = fixBytes 0 l := by rw [← q2, hz, List.append_nil, List.take_of_length_le (by omega)]
      have HZ := hid hD2
      clear hD2 hz q2
      go_wp2
      go_end0
      exact ⟨rfl, by rw [← HZ.out]; exact q3, q4⟩
end Go.Proofs.Ytmgcbodlolnheaa
