/-
  'floatingAccumulateOpSrc': from the buffer to the bytes of the mask.
-/
import Derived.Test.YtmgcbodlolnheaaAccFix
namespace Go.Proofs.Ytmgcbodlolnheaa
open Go.ChangeShapes Go.WideShapes Go.ChangeAt Go.RowKit
set_option linter.unusedVariables false

/-- The float32 cut towards zero is a byte. -/
def Iok8 (a : Nat) : Prop := (floatToIntVal .f32 a .u8).isSome = true
def fint8 (a : Nat) : Int := (floatToIntVal .f32 a .u8).getD 0
theorem run_fint8 {P : Program} {a : Nat} (src dst : TypeId) (hs : (P.underlying src).isSome = true) (hd : P.underlying dst = some (.int .u8)) (h : Iok8 a) (w : World) :
    (convert src dst (.float .f32 a)).run P w = .ok (.int .u8 (fint8 a)) w := by
  refine run_convert_float_int w src dst .f32 .u8 a _ hs hd ?_
  unfold Iok8 at h
  unfold fint8
  cases hh : floatToIntVal .f32 a .u8 with
  | none => rw [hh] at h; cases h
  | some r => rfl
/-- The opposite of a float32. -/
def fneg (a : Nat) : Nat := Go.Op.negFloat .f32 a
/-- A sum of the floating kind made a part of one. -/
def fpart (acc : Nat) : Nat :=
  if flt acc 0 = true then (if fgt (fneg acc) 1065353216 = true then 1065353216 else fneg acc)
  else (if fgt acc 1065353216 = true then 1065353216 else acc)
def floByte (acc : Nat) : Int := fint8 (fop .mul 1132462079 (fpart acc))
def FloByteOk (acc : Nat) : Prop := Fok .mul 1132462079 (fpart acc) ∧ Iok8 (fop .mul 1132462079 (fpart acc))
/-- The bytes behind a buffer, the sum so far being acc. -/
def floBytes : Nat → List Nat → List Int
  | _, [] => []
  | acc, v :: t => floByte (fop .add acc v) :: floBytes (fop .add acc v) t
def FloBytesOk : Nat → List Nat → Prop
  | _, [] => True
  | acc, v :: t => Fok .add acc v ∧ FloByteOk (fop .add acc v) ∧ FloBytesOk (fop .add acc v) t
theorem length_floBytes : ∀ (acc : Nat) (l : List Nat), (floBytes acc l).length = l.length
  | _, [] => rfl
  | acc, v :: t => by simp [floBytes, length_floBytes]
theorem drop_fAt {l : List Nat} {k : Nat} (h : k < l.length) : l.drop k = fAt l k :: l.drop (k + 1) := by
  rw [List.drop_eq_getElem_cons h]
  simp [fAt, List.getD, h]

@[go_sem] theorem unary_fneg (a : Nat) : Op.unary .neg (.float .f32 a) = pure (.float .f32 (fneg a)) := rfl
theorem fpart_cases (acc : Nat) :
    ((FloatKind.f32.format.order acc 0 == some Ordering.lt) = true ∧ (FloatKind.f32.format.order (fneg acc) 1065353216 == some Ordering.gt) = true ∧ fpart acc = 1065353216) ∨
    ((FloatKind.f32.format.order acc 0 == some Ordering.lt) = true ∧ (FloatKind.f32.format.order (fneg acc) 1065353216 == some Ordering.gt) = false ∧ fpart acc = fneg acc) ∨
    ((FloatKind.f32.format.order acc 0 == some Ordering.lt) = false ∧ (FloatKind.f32.format.order acc 1065353216 == some Ordering.gt) = true ∧ fpart acc = 1065353216) ∨
    ((FloatKind.f32.format.order acc 0 == some Ordering.lt) = false ∧ (FloatKind.f32.format.order acc 1065353216 == some Ordering.gt) = false ∧ fpart acc = acc) := by
  unfold fpart flt fgt
  cases (FloatKind.f32.format.order acc 0 == some Ordering.lt) <;> cases (FloatKind.f32.format.order (fneg acc) 1065353216 == some Ordering.gt) <;>
    cases (FloatKind.f32.format.order acc 1065353216 == some Ordering.gt) <;> simp

theorem flo_round {w wr : World} {d n k acc : Nat} {D' : List Int} {l : List Nat} (hk : k ≤ n) (hlt : k < n) (q1 : D'.length = n) (hl : l.length = n) (q2 : D'.take k ++ floBytes acc (l.drop k) = floBytes 0 l)
    (q3 : Blk wr d 5 (byteCells D')) (q4 : Kept (· = d) w wr) (a4 : FloBytesOk (fop .add acc (fAt l k)) (l.drop (k + 1))) (x : Nat) (hv : fpart (fop .add acc (fAt l k)) = x) :
    ∃ (k_1 acc_1 : Nat) (D'_1 : List Int), k_1 ≤ n ∧ Value.int .i64 ((k : Int) + 1) = .int .i64 k_1 ∧ Value.float .f32 (fop .add acc (fAt l k)) = .float .f32 acc_1 ∧ FloBytesOk acc_1 (l.drop k_1) ∧ D'_1.length = n ∧
      D'_1.take k_1 ++ floBytes acc_1 (l.drop k_1) = floBytes 0 l ∧ Blk (wr.setCell ⟨d, k, none⟩ (.int .u8 (fint8 (fop .mul 1132462079 x)))) d 5 (byteCells D'_1) ∧ Kept (· = d) w (wr.setCell ⟨d, k, none⟩ (.int .u8 (fint8 (fop .mul 1132462079 x)))) := by
  refine ⟨k + 1, _, D'.set k (fint8 (fop .mul 1132462079 x)), by omega, by simp, rfl, a4, by simpa using q1, ?_, byte_blk q3 k _, q4.set_in rfl⟩
  rw [take_set_succ (by omega), ← q2, drop_fAt (k := k) (by omega), floBytes, floByte, hv]
  simp

set_option maxHeartbeats 1000000 in
set_option maxRecDepth 100000 in
theorem accFlo_any (d g n : Nat) (D : List Int) (l : List Nat) (rest : List Value) (w : World) (hd : Blk w d 5 (byteCells D)) (hD : D.length = n) (hg : Blk w g 72 (fbufCells l rest)) (hl : l.length = n)
    (hn : n ≤ 100000) (hcap : n + rest.length ≤ 100000) (hok : FloBytesOk 0 l) :
    Calls Try.prog 54 #[.slice (some ⟨d, 0, none⟩) n n, .slice (some ⟨g, 0, none⟩) n (n + rest.length)] w fun e w' => e = .returned (.tuple #[]) ∧
      Blk w' d 5 (byteCells (floBytes 0 l)) ∧ Kept (· = d) w w' := by
  have hne : g ≠ d := hg.ne_ hd (by decide)
  have HD := hid hd
  have HG := hid hg
  have HL := hid hl
  have HDL := hid hD
  have HOK := hid hok
  have hno : ¬ n < n := by omega
  clear hd hg hl hD hok
  go_enter Try.func54, Try.ntmps54
  go_wp2
  go_loopw [4, 15] (fun a i wr => ∃ (k acc : Nat) (D' : List Int), k ≤ n ∧ i = .int .i64 k ∧ a = .float .f32 acc ∧ FloBytesOk acc (l.drop k) ∧ D'.length = n ∧ D'.take k ++ floBytes acc (l.drop k) = floBytes 0 l ∧ Blk wr d 5 (byteCells D') ∧ Kept (· = d) w wr) (fun _ i _ => n - (intOf i).toNat)
  case atStart => exact ⟨0, 0, D, Nat.zero_le _, rfl, rfl, by simpa using HOK.out, HDL.out, by simp, HD.out, Kept.refl _ _⟩
  case round =>
    obtain ⟨k, acc, D', hk, rfl, rfl, q0, q1, q2, q3, q4⟩ := hrel
    by_cases hlt : k < n
    · have hgw := q4.blk HG.out hne
      have c1 := fbuf_cell hgw (k := k) (by have := HL.out; omega)
      have c2 := byte_cell q3 (k := k) (by omega)
      have c3 := q3.frozen k
      rw [drop_fAt (by have := HL.out; omega)] at q0
      obtain ⟨a1, ⟨a2, a3⟩, a4⟩ := q0
      have A4 := hid a4
      clear a4
      have e8 := fun w => run_fint8 (P := Try.prog) 72 5 (by kernel_rfl) Try.underlying5 a3 w
      rcases fpart_cases (fop .add acc (fAt l k)) with ⟨o1, o2, o3⟩ | ⟨o1, o2, o3⟩ | ⟨o1, o2, o3⟩ | ⟨o1, o2, o3⟩
      all_goals
        rw [o3] at a2 e8
        have O3 := hid o3
        clear o3 a3
        go_wp2
        go_roundw
        case measure => simp [intOf]; omega
        case rel => exact flo_round hk hlt q1 HL.out q2 q3 q4 A4.out _ O3.out
    · obtain rfl : k = n := by omega
      have hz : floBytes acc (l.drop k) = [] := by rw [List.drop_of_length_le (by have := HL.out; omega)]; rfl
      have hD2 : D' = floBytes 0 l := by rw [← q2, hz, List.append_nil, List.take_of_length_le (by omega)]
      have HZ := hid hD2
      clear hD2 hz q2 q0
      go_wp2
      go_end0
      exact ⟨rfl, by rw [← HZ.out]; exact q3, q4⟩
end Go.Proofs.Ytmgcbodlolnheaa
