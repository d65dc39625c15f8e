/-
  'fixedAccumulateOpSrc': from the buffer to the bytes of the mask.
  'floatingAccumulateOpSrc': from the buffer to the bytes of the mask.
  'ZZMask': the mask of a Rasterizer.
-/
import Derived.Test.YtmgcbodlolnheaaZOps
import Derived.Laws.OwnMore
namespace Go.Proofs.Ytmgcbodlolnheaa
open Go.ChangeShapes Go.WideShapes Go.ChangeAt Go.RowKit
set_option linter.unusedVariables false

/-- Cells of bytes. -/
def byteCells (l : List Int) : Array Value := (l.map (Value.int .u8)).toArray
theorem byteCells_set {l : List Int} {k : Nat} (v : Int) : (byteCells l).setIfInBounds k (.int .u8 v) = byteCells (l.set k v) := by
  unfold byteCells
  apply Array.ext'
  simp
theorem byteCells_made (n : Nat) : madeCells #[.int .u8 0] n = byteCells (List.replicate n 0) := by
  unfold byteCells
  apply Array.ext'
  rw [toList_madeCells_one]
  simp

/-- A sum of the fixed kind as a byte. -/
def fixByte (acc : Int) : Int :=
  if acc < 0 then (if 255 < wrap32 (-acc) / 1024 then 255 else (wrap32 (-acc) / 1024) % 256)
  else (if 255 < acc / 1024 then 255 else (acc / 1024) % 256)
/-- The bytes behind a buffer, the sum so far being acc. -/
def fixBytes : Int → List Int → List Int
  | _, [] => []
  | acc, v :: t => fixByte (wrap32 (acc + wrap32 v)) :: fixBytes (wrap32 (acc + wrap32 v)) t
theorem fixBytes_drop {l : List Int} {k : Nat} (h : k < l.length) (acc : Int) :
    fixBytes acc (l.drop k) = fixByte (wrap32 (acc + wrap32 (bufAt l k))) :: fixBytes (wrap32 (acc + wrap32 (bufAt l k))) (l.drop (k + 1)) := by
  have e : l.drop k = bufAt l k :: l.drop (k + 1) := by
    rw [List.drop_eq_getElem_cons h]
    simp [bufAt, List.getD, h]
  rw [e, fixBytes]
theorem take_set_succ {D : List Int} {k : Nat} (h : k < D.length) (v : Int) : (D.set k v).take (k + 1) = D.take k ++ [v] := by
  rw [List.take_succ_eq_append_getElem (by simpa using h)]
  rw [List.take_set_of_le (Nat.le_refl _)]
  simp

section
variable {w : World} {d : Nat} {D : List Int}
theorem byte_blk (h : Blk w d 5 (byteCells D)) (k : Nat) (v : Int) : Blk (w.setCell ⟨d, k, none⟩ (.int .u8 v)) d 5 (byteCells (D.set k v)) := by
  have := h.set_ k (.int .u8 v)
  rwa [byteCells_set] at this
theorem byte_cell (h : Blk w d 5 (byteCells D)) {k : Nat} (hk : k < D.length) : w.cell? ⟨d, k, none⟩ = some (.int .u8 (D.getD k 0)) := by
  rw [h.cell]
  simp [byteCells, hk, List.getD]
end

section
variable {acc : Int}
theorem fixByte_1 (h : acc < 0) (h' : 255 < wrap32 (-acc) / 1024) : fixByte acc = 255 := by simp [fixByte, h, h']
theorem fixByte_2 (h : acc < 0) (h' : wrap32 (-acc) / 1024 ≤ 255) : fixByte acc = wrap32 (-acc) / 1024 % 256 := by simp [fixByte, h, Int.not_lt.2 h']
theorem fixByte_3 (h : 0 ≤ acc) (h' : 255 < acc / 1024) : fixByte acc = 255 := by simp [fixByte, Int.not_lt.2 h, h']
theorem fixByte_4 (h : 0 ≤ acc) (h' : acc / 1024 ≤ 255) : fixByte acc = acc / 1024 := by simp [fixByte, Int.not_lt.2 h, Int.not_lt.2 h']; omega
end
theorem fix_round {w wr : World} {d n k : Nat} {acc : Int} {D' l : List Int} (hk : k ≤ n) (hlt : k < n) (q1 : D'.length = n) (hl : l.length = n) (q2 : D'.take k ++ fixBytes acc (l.drop k) = fixBytes 0 l)
    (q3 : Blk wr d 5 (byteCells D')) (q4 : Kept (· = d) w wr) (v : Int) (hv : fixByte (wrap32 (acc + wrap32 (bufAt l k))) = v) :
    ∃ (k_1 : Nat) (acc_1 : Int) (D'_1 : List Int), k_1 ≤ n ∧ Value.int .i64 ((k : Int) + 1) = .int .i64 k_1 ∧ Value.int .i32 (wrap32 (acc + wrap32 (bufAt l k))) = .int .i32 acc_1 ∧ D'_1.length = n ∧
      D'_1.take k_1 ++ fixBytes acc_1 (l.drop k_1) = fixBytes 0 l ∧ Blk (wr.setCell ⟨d, k, none⟩ (.int .u8 v)) d 5 (byteCells D'_1) ∧ Kept (· = d) w (wr.setCell ⟨d, k, none⟩ (.int .u8 v)) := by
  refine ⟨k + 1, _, D'.set k v, by omega, by simp, rfl, by simpa using q1, ?_, byte_blk q3 k v, q4.set_in rfl⟩
  rw [take_set_succ (by omega), ← q2, fixBytes_drop (k := k) (by omega) acc, hv]
  simp

set_option maxHeartbeats 1000000 in
set_option maxRecDepth 100000 in
theorem accFix_any (d g n : Nat) (D l : List Int) (rest : List Value) (w : World) (hd : Blk w d 5 (byteCells D)) (hD : D.length = n) (hg : Blk w g 100 (bufCells l rest)) (hl : l.length = n)
    (hn : n ≤ 100000) (hcap : n + rest.length ≤ 100000) :
    Calls Try.prog 55 #[.slice (some ⟨d, 0, none⟩) n n, .slice (some ⟨g, 0, none⟩) n (n + rest.length)] w fun e w' => e = .returned (.tuple #[]) ∧
      Blk w' d 5 (byteCells (fixBytes 0 l)) ∧ Kept (· = d) w w' := by
  have hne : g ≠ d := hg.ne_ hd (by decide)
  have HD := hid hd
  have HG := hid hg
  have HL := hid hl
  have HDL := hid hD
  have hno : ¬ n < n := by omega
  clear hd hg hl hD
  go_enter Try.func55, Try.ntmps55
  go_wp2
  go_loopw [4, 15] (fun a i wr => ∃ (k : Nat) (acc : Int) (D' : List Int), k ≤ n ∧ i = .int .i64 k ∧ a = .int .i32 acc ∧ D'.length = n ∧ D'.take k ++ fixBytes acc (l.drop k) = fixBytes 0 l ∧ Blk wr d 5 (byteCells D') ∧ Kept (· = d) w wr) (fun _ i _ => n - (intOf i).toNat)
  case atStart => exact ⟨0, 0, D, Nat.zero_le _, rfl, rfl, HDL.out, by simp, HD.out, Kept.refl _ _⟩
  case round =>
    obtain ⟨k, acc, D', hk, rfl, rfl, q1, q2, q3, q4⟩ := hrel
    by_cases hlt : k < n
    · have hgw := q4.blk HG.out hne
      have c1 := buf_cell hgw (k := k) (by have := HL.out; omega)
      have c2 := byte_cell q3 (k := k) (by omega)
      have c3 := q3.frozen k
      go_wp2
      all_goals
        go_roundw
        case measure => simp [intOf]; omega
        case rel =>
          first
          | exact fix_round hk hlt q1 HL.out q2 q3 q4 _ (fixByte_1 (by assumption) (by assumption))
          | exact fix_round hk hlt q1 HL.out q2 q3 q4 _ (fixByte_2 (by assumption) (by assumption))
          | exact fix_round hk hlt q1 HL.out q2 q3 q4 _ (fixByte_3 (by assumption) (by assumption))
          | exact fix_round hk hlt q1 HL.out q2 q3 q4 _ (fixByte_4 (by assumption) (by assumption))
    · obtain rfl : k = n := by omega
      have hz : fixBytes acc (l.drop k) = [] := by rw [List.drop_of_length_le (by have := HL.out; omega)]; rfl
      have hD2 : D' = fixBytes 0 l := by rw [← q2, hz, List.append_nil, List.take_of_length_le (by omega)]
      have HZ := hid hD2
      clear hD2 hz q2
      go_wp2
      go_end0
      exact ⟨rfl, by rw [← HZ.out]; exact q3, q4⟩
end Go.Proofs.Ytmgcbodlolnheaa

namespace Go.Proofs.Ytmgcbodlolnheaa
open Go.ChangeShapes Go.WideShapes Go.ChangeAt Go.RowKit
set_option linter.unusedVariables false

/-- The float32 cut towards zero is a byte. -/
def Iok8 (a : Nat) : Prop := (floatToIntVal .f32 a .u8).isSome = true
def fint8 (a : Nat) : Int := (floatToIntVal .f32 a .u8).getD 0
theorem run_fint8 {P : Program} {a : Nat} (src dst : TypeId) (hs : (P.underlying src).isSome = true) (hd : P.underlying dst = some (.int .u8)) (h : Iok8 a) (w : World) :
    (convert src dst (.float .f32 a)).run P w = .ok (.int .u8 (fint8 a)) w := by
  refine run_convert_float_int w src dst .f32 .u8 a _ hs hd ?_
  unfold Iok8 at h
  unfold fint8
  cases hh : floatToIntVal .f32 a .u8 with
  | none => rw [hh] at h; cases h
  | some r => rfl
/-- The opposite of a float32. -/
def fneg (a : Nat) : Nat := Go.Op.negFloat .f32 a
/-- A sum of the floating kind made a part of one. -/
def fpart (acc : Nat) : Nat :=
  if flt acc 0 = true then (if fgt (fneg acc) 1065353216 = true then 1065353216 else fneg acc)
  else (if fgt acc 1065353216 = true then 1065353216 else acc)
def floByte (acc : Nat) : Int := fint8 (fop .mul 1132462079 (fpart acc))
def FloByteOk (acc : Nat) : Prop := Fok .mul 1132462079 (fpart acc) ∧ Iok8 (fop .mul 1132462079 (fpart acc))
/-- The bytes behind a buffer, the sum so far being acc. -/
def floBytes : Nat → List Nat → List Int
  | _, [] => []
  | acc, v :: t => floByte (fop .add acc v) :: floBytes (fop .add acc v) t
def FloBytesOk : Nat → List Nat → Prop
  | _, [] => True
  | acc, v :: t => Fok .add acc v ∧ FloByteOk (fop .add acc v) ∧ FloBytesOk (fop .add acc v) t
theorem length_floBytes : ∀ (acc : Nat) (l : List Nat), (floBytes acc l).length = l.length
  | _, [] => rfl
  | acc, v :: t => by simp [floBytes, length_floBytes]
theorem drop_fAt {l : List Nat} {k : Nat} (h : k < l.length) : l.drop k = fAt l k :: l.drop (k + 1) := by
  rw [List.drop_eq_getElem_cons h]
  simp [fAt, List.getD, h]

@[go_sem] theorem unary_fneg (a : Nat) : Op.unary .neg (.float .f32 a) = pure (.float .f32 (fneg a)) := rfl
theorem fpart_cases (acc : Nat) :
    ((FloatKind.f32.format.order acc 0 == some Ordering.lt) = true ∧ (FloatKind.f32.format.order (fneg acc) 1065353216 == some Ordering.gt) = true ∧ fpart acc = 1065353216) ∨
    ((FloatKind.f32.format.order acc 0 == some Ordering.lt) = true ∧ (FloatKind.f32.format.order (fneg acc) 1065353216 == some Ordering.gt) = false ∧ fpart acc = fneg acc) ∨
    ((FloatKind.f32.format.order acc 0 == some Ordering.lt) = false ∧ (FloatKind.f32.format.order acc 1065353216 == some Ordering.gt) = true ∧ fpart acc = 1065353216) ∨
    ((FloatKind.f32.format.order acc 0 == some Ordering.lt) = false ∧ (FloatKind.f32.format.order acc 1065353216 == some Ordering.gt) = false ∧ fpart acc = acc) := by
  unfold fpart flt fgt
  cases (FloatKind.f32.format.order acc 0 == some Ordering.lt) <;> cases (FloatKind.f32.format.order (fneg acc) 1065353216 == some Ordering.gt) <;>
    cases (FloatKind.f32.format.order acc 1065353216 == some Ordering.gt) <;> simp

theorem flo_round {w wr : World} {d n k acc : Nat} {D' : List Int} {l : List Nat} (hk : k ≤ n) (hlt : k < n) (q1 : D'.length = n) (hl : l.length = n) (q2 : D'.take k ++ floBytes acc (l.drop k) = floBytes 0 l)
    (q3 : Blk wr d 5 (byteCells D')) (q4 : Kept (· = d) w wr) (a4 : FloBytesOk (fop .add acc (fAt l k)) (l.drop (k + 1))) (x : Nat) (hv : fpart (fop .add acc (fAt l k)) = x) :
    ∃ (k_1 acc_1 : Nat) (D'_1 : List Int), k_1 ≤ n ∧ Value.int .i64 ((k : Int) + 1) = .int .i64 k_1 ∧ Value.float .f32 (fop .add acc (fAt l k)) = .float .f32 acc_1 ∧ FloBytesOk acc_1 (l.drop k_1) ∧ D'_1.length = n ∧
      D'_1.take k_1 ++ floBytes acc_1 (l.drop k_1) = floBytes 0 l ∧ Blk (wr.setCell ⟨d, k, none⟩ (.int .u8 (fint8 (fop .mul 1132462079 x)))) d 5 (byteCells D'_1) ∧ Kept (· = d) w (wr.setCell ⟨d, k, none⟩ (.int .u8 (fint8 (fop .mul 1132462079 x)))) := by
  refine ⟨k + 1, _, D'.set k (fint8 (fop .mul 1132462079 x)), by omega, by simp, rfl, a4, by simpa using q1, ?_, byte_blk q3 k _, q4.set_in rfl⟩
  rw [take_set_succ (by omega), ← q2, drop_fAt (k := k) (by omega), floBytes, floByte, hv]
  simp

set_option maxHeartbeats 1000000 in
set_option maxRecDepth 100000 in
theorem accFlo_any (d g n : Nat) (D : List Int) (l : List Nat) (rest : List Value) (w : World) (hd : Blk w d 5 (byteCells D)) (hD : D.length = n) (hg : Blk w g 72 (fbufCells l rest)) (hl : l.length = n)
    (hn : n ≤ 100000) (hcap : n + rest.length ≤ 100000) (hok : FloBytesOk 0 l) :
    Calls Try.prog 54 #[.slice (some ⟨d, 0, none⟩) n n, .slice (some ⟨g, 0, none⟩) n (n + rest.length)] w fun e w' => e = .returned (.tuple #[]) ∧
      Blk w' d 5 (byteCells (floBytes 0 l)) ∧ Kept (· = d) w w' := by
  have hne : g ≠ d := hg.ne_ hd (by decide)
  have HD := hid hd
  have HG := hid hg
  have HL := hid hl
  have HDL := hid hD
  have HOK := hid hok
  have hno : ¬ n < n := by omega
  clear hd hg hl hD hok
  go_enter Try.func54, Try.ntmps54
  go_wp2
  go_loopw [4, 15] (fun a i wr => ∃ (k acc : Nat) (D' : List Int), k ≤ n ∧ i = .int .i64 k ∧ a = .float .f32 acc ∧ FloBytesOk acc (l.drop k) ∧ D'.length = n ∧ D'.take k ++ floBytes acc (l.drop k) = floBytes 0 l ∧ Blk wr d 5 (byteCells D') ∧ Kept (· = d) w wr) (fun _ i _ => n - (intOf i).toNat)
  case atStart => exact ⟨0, 0, D, Nat.zero_le _, rfl, rfl, by simpa using HOK.out, HDL.out, by simp, HD.out, Kept.refl _ _⟩
  case round =>
    obtain ⟨k, acc, D', hk, rfl, rfl, q0, q1, q2, q3, q4⟩ := hrel
    by_cases hlt : k < n
    · have hgw := q4.blk HG.out hne
      have c1 := fbuf_cell hgw (k := k) (by have := HL.out; omega)
      have c2 := byte_cell q3 (k := k) (by omega)
      have c3 := q3.frozen k
      rw [drop_fAt (by have := HL.out; omega)] at q0
      obtain ⟨a1, ⟨a2, a3⟩, a4⟩ := q0
      have A4 := hid a4
      clear a4
      have e8 := fun w => run_fint8 (P := Try.prog) 72 5 (by kernel_rfl) Try.underlying5 a3 w
      rcases fpart_cases (fop .add acc (fAt l k)) with ⟨o1, o2, o3⟩ | ⟨o1, o2, o3⟩ | ⟨o1, o2, o3⟩ | ⟨o1, o2, o3⟩
      all_goals
        rw [o3] at a2 e8
        have O3 := hid o3
        clear o3 a3
        go_wp2
        go_roundw
        case measure => simp [intOf]; omega
        case rel => exact flo_round hk hlt q1 HL.out q2 q3 q4 A4.out _ O3.out
    · obtain rfl : k = n := by omega
      have hz : floBytes acc (l.drop k) = [] := by rw [List.drop_of_length_le (by have := HL.out; omega)]; rfl
      have hD2 : D' = floBytes 0 l := by rw [← q2, hz, List.append_nil, List.take_of_length_le (by omega)]
      have HZ := hid hD2
      clear hD2 hz q2 q0
      go_wp2
      go_end0
      exact ⟨rfl, by rw [← HZ.out]; exact q3, q4⟩
end Go.Proofs.Ytmgcbodlolnheaa

namespace Go.Proofs.Ytmgcbodlolnheaa
open Go.ChangeShapes Go.WideShapes Go.ChangeAt Go.RowKit
set_option linter.unusedVariables false

theorem info5 : (Try.prog.info? 5).map (fun i => (i.zero, i.size, i.bytes)) = some (some (.int .u8 0), 1, 1) := by kernel_rfl
theorem make_u8 (W H : Nat) (hn : W * H ≤ 1000000) (u : World) : (Instr.makeSlice 34 (.int .i64 ((W : Int) * (H : Int))) (.int .i64 ((W : Int) * (H : Int)))).run Try.prog u =
    .ok (.slice (some ⟨u.heap.size, 0, none⟩) (W * H) (W * H)) (u.alloc (.cells (byteCells (List.replicate (W * H) 0)) 5)) := by
  obtain ⟨i0, hi, hz0, hz1, hz2⟩ := info_parts info5
  have h := run_make (P := Try.prog) u 34 5 i0 (.int .u8 0) Try.underlying34 hi hz0 .i64 .i64 ((W * H : Nat) : Int) ((W * H : Nat) : Int) (by omega) (Int.le_refl _) (by rw [hz2]; omega) (by omega)
  rw [← byteCells_made]
  have e : ((W * H : Nat) : Int) = (W : Int) * (H : Int) := by push_cast; rfl
  rw [← e]
  rw [hz1, Nat.mul_one, Int.toNat_natCast] at h
  exact h

/-- The bytes of a mask. -/
def maskOf : Buf → List Int
  | .fix l => fixBytes 0 l
  | .flo l => floBytes 0 l
def MaskOk : Buf → Prop
  | .fix _ => True
  | .flo l => FloBytesOk 0 l
set_option maxHeartbeats 1000000 in
set_option maxRecDepth 100000 in
theorem zzmask_any (b g W H : Nat) (o : Value) (rest : List Value) (fx fy px py : Nat) (B : Buf) (w : World) (hd : Dims W H rest)
    (h : Ras w b g W H o rest fx fy px py B) (hok : MaskOk B) :
    Calls Try.prog 42 #[.pointer (some ⟨b, 0, none⟩)] w fun e w' => ∃ d, e = .returned (.slice (some ⟨d, 0, none⟩) (W * H) (W * H)) ∧ w.heap.size ≤ d ∧ Blk w' d 5 (byteCells (maskOf B)) ∧ Same w w' := by
  have hmk := make_u8 W H (by have := hd.n; omega)
  have m0 : 0 ≤ (W : Int) * (H : Int) := Int.mul_nonneg (by omega) (by omega)
  have m1 : (W : Int) * (H : Int) ≤ 100000 := by rw [← Int.natCast_mul]; have := hd.n; omega
  have hDb := (Blk.new w 5 (byteCells (List.replicate (W * H) 0))).drew
  have hnb := hd.n
  have hcb := hd.c
  have hDl : (List.replicate (W * H) (0 : Int)).length = W * H := List.length_replicate
  cases B with
  | fix l =>
    obtain ⟨h1, h2, h3⟩ := h
    obtain ⟨c0, c1, c2, c3, c4, c5, c6, c7, c8, c9⟩ := rz_cells h1
    have hlt := h1.lt
    have H2 := hid ((h2.alloc (.cells (byteCells (List.replicate (W * H) 0)) 5)).drew)
    have H3 := hid h3
    have HL := hid hDl
    have HDB := hid hDb
    clear h1 h2 h3 hDl hDb c5 c6 c7 c8 c9
    go_enter Try.func42, Try.ntmps42
    go_wp2
    go_region
    go_wp2_with fail
    refine (accFix_any w.heap.size g (W * H) (List.replicate (W * H) 0) l rest _ HDB.out HL.out H2.out H3.out hnb hcb).mono ?_
    rintro e w' ⟨rfl, r1, r2⟩
    go_wp2
    go_ret
    exact ⟨_, rfl, Nat.le_refl _, r1, (((Kept.refl (fun k => k = w.heap.size) w).alloc _).drew.trans r2).mono fun k hk he => absurd he (Nat.ne_of_lt hk)⟩
  | flo l =>
    obtain ⟨h1, h2, h3⟩ := h
    obtain ⟨c0, c1, c2, c3, c4, c5, c6, c7, c8, c9⟩ := rz_cells h1
    have hlt := h1.lt
    have H2 := hid ((h2.alloc (.cells (byteCells (List.replicate (W * H) 0)) 5)).drew)
    have H3 := hid h3
    have HL := hid hDl
    have HDB := hid hDb
    have HOK := hid hok
    clear h1 h2 h3 hDl hDb c5 c6 c7 c8 c9 hok
    go_enter Try.func42, Try.ntmps42
    go_wp2
    go_region
    go_wp2_with fail
    refine (accFlo_any w.heap.size g (W * H) (List.replicate (W * H) 0) l rest _ HDB.out HL.out H2.out H3.out hnb hcb HOK.out).mono ?_
    rintro e w' ⟨rfl, r1, r2⟩
    go_wp2
    go_ret
    exact ⟨_, rfl, Nat.le_refl _, r1, (((Kept.refl (fun k => k = w.heap.size) w).alloc _).drew.trans r2).mono fun k hk he => absurd he (Nat.ne_of_lt hk)⟩
end Go.Proofs.Ytmgcbodlolnheaa
