/- How far an edge can bring the content of a cell: a certificate that the kernel -/
import Derived.Test.YtmgcbodlolnheaaZ00
namespace Go.Proofs.Ytmgcbodlolnheaa
set_option linter.unusedVariables false
structure Par where
 beta : Nat
 H : Nat
 D : Nat
 k1 : Nat
 own : Nat
 nown : Nat
 bLR : Nat
 base : Nat
 betaR : Nat
structure Bq where
 p0 : Nat
 p1 : Nat
 q0 : Nat
 q1 : Nat
 y0 : Nat
 y1 : Nat
 z0 : Nat
 z1 : Nat
 w0 : Nat
 w1 : Nat
 U00 : Nat
 U01 : Nat
 U10 : Nat
 U11 : Nat
 V00 : Nat
 V01 : Nat
 V10 : Nat
 V11 : Nat
def avq (a b : Nat) : Nat := Nat.div (Nat.add (Nat.add a b) 1) 2
def hfq (a b : Nat) : Nat := Nat.div (Nat.add a b) 2
def evq (a b : Nat) : Bool := Nat.beq (Nat.add (hfq a b) (hfq a b)) (Nat.add a b)
def cdq (a b : Nat) : Nat := Nat.div (Nat.sub (Nat.add a b) 1) b
def Bq.lo (b : Bq) : Nat -> Bq
 | 0 => ⟨b.p0, hfq b.p0 b.p1, b.q0, b.q1, b.y0, b.y1, b.z0, b.z1, b.w0, b.w1, b.U00, b.U01, avq b.U00 b.U10, avq b.U01 b.U11, b.V00, b.V01, b.V10, b.V11⟩
 | 1 => ⟨b.p0, b.p1, b.q0, hfq b.q0 b.q1, b.y0, b.y1, b.z0, b.z1, b.w0, b.w1, b.U00, b.U01, b.U10, b.U11, b.V00, b.V01, avq b.V00 b.V10, avq b.V01 b.V11⟩
 | 2 => ⟨b.p0, b.p1, b.q0, b.q1, b.y0, hfq b.y0 b.y1, b.z0, b.z1, b.w0, b.w1, b.U00, avq b.U00 b.U01, b.U10, avq b.U10 b.U11, b.V00, b.V01, b.V10, b.V11⟩
 | 3 => ⟨b.p0, b.p1, b.q0, b.q1, b.y0, b.y1, b.z0, hfq b.z0 b.z1, b.w0, b.w1, b.U00, b.U01, b.U10, b.U11, b.V00, avq b.V00 b.V01, b.V10, avq b.V10 b.V11⟩
 | _ => ⟨b.p0, b.p1, b.q0, b.q1, b.y0, b.y1, b.z0, b.z1, b.w0, hfq b.w0 b.w1, b.U00, b.U01, b.U10, b.U11, b.V00, b.V01, b.V10, b.V11⟩
def Bq.hi (b : Bq) : Nat -> Bq
 | 0 => ⟨hfq b.p0 b.p1, b.p1, b.q0, b.q1, b.y0, b.y1, b.z0, b.z1, b.w0, b.w1, avq b.U00 b.U10, avq b.U01 b.U11, b.U10, b.U11, b.V00, b.V01, b.V10, b.V11⟩
 | 1 => ⟨b.p0, b.p1, hfq b.q0 b.q1, b.q1, b.y0, b.y1, b.z0, b.z1, b.w0, b.w1, b.U00, b.U01, b.U10, b.U11, avq b.V00 b.V10, avq b.V01 b.V11, b.V10, b.V11⟩
 | 2 => ⟨b.p0, b.p1, b.q0, b.q1, hfq b.y0 b.y1, b.y1, b.z0, b.z1, b.w0, b.w1, avq b.U00 b.U01, b.U01, avq b.U10 b.U11, b.U11, b.V00, b.V01, b.V10, b.V11⟩
 | 3 => ⟨b.p0, b.p1, b.q0, b.q1, b.y0, b.y1, hfq b.z0 b.z1, b.z1, b.w0, b.w1, b.U00, b.U01, b.U10, b.U11, avq b.V00 b.V01, b.V01, avq b.V10 b.V11, b.V11⟩
 | _ => ⟨b.p0, b.p1, b.q0, b.q1, b.y0, b.y1, b.z0, b.z1, hfq b.w0 b.w1, b.w1, b.U00, b.U01, b.U10, b.U11, b.V00, b.V01, b.V10, b.V11⟩
def Bq.even (b : Bq) : Nat -> Bool
 | 0 => evq b.p0 b.p1
 | 1 => evq b.q0 b.q1
 | 2 => evq b.y0 b.y1
 | 3 => evq b.z0 b.z1
 | _ => true
inductive Zp | ll | lm | lr | mm | mr | rr
def Bq.x0 (b : Bq) : Zp -> Nat
 | .lm => Nat.div (Nat.mul b.q0 b.w0) 64
 | _ => Nat.add (Nat.mul 65536 b.w0) b.q0
def Bq.x1 (b : Bq) : Zp -> Nat
 | .lm => cdq (Nat.mul b.q1 b.w1) 64
 | _ => Nat.add (Nat.mul 65536 b.w1) b.q1
def Bq.d0 (b : Bq) : Zp -> Nat
 | .mr => Nat.div (Nat.mul (Nat.sub 4194304 b.p1) b.w0) 64
 | _ => Nat.add b.p0 (Nat.mul 65536 b.w0)
def Bq.d1 (b : Bq) : Zp -> Nat
 | .mr => cdq (Nat.mul (Nat.sub 4194304 b.p0) b.w1) 64
 | _ => Nat.add b.p1 (Nat.mul 65536 b.w1)
def loq (a x : Nat) : Nat := Nat.div (Nat.mul 65536 a) (Nat.add a x)
def hiq (a x : Nat) : Nat := bif Nat.beq (Nat.add a x) 0 then 65536 else (bif Nat.ble (cdq (Nat.mul 65536 a) (Nat.add a x)) 65536 then cdq (Nat.mul 65536 a) (Nat.add a x) else 65536)
def Bq.dead (b : Bq) (P : Par) (zp : Zp) : Bool :=
 Nat.blt (Nat.add b.y1 P.H) b.z0 || Nat.blt (Nat.add b.z1 P.H) b.y0 ||
 (match zp with
  | .ll => Nat.blt b.p1 b.q0 || Nat.blt (Nat.mul 65536 (Nat.add 66 b.w1)) b.p0
  | .lm => Nat.blt (Nat.mul 65536 (Nat.add 66 b.w1)) b.p0
  | .lr => Nat.blt (Nat.mul 65536 (Nat.add 66 b.w1)) b.p0
  | .mm => Nat.blt b.q1 b.p0
  | .mr => false
  | .rr => Nat.blt b.q1 b.p0)
def ownq (P : Par) (dx : Nat) : Nat :=
 bif Nat.ble 2621440 dx then Nat.div (Nat.mul P.own P.nown) 40 else bif Nat.ble 655360 dx then Nat.div (Nat.mul P.own P.nown) 10 else bif Nat.ble 262144 dx then Nat.div (Nat.mul P.own P.nown) 4 else P.own
def Bq.oth (b : Bq) (P : Par) : Zp -> Nat
 | .lr => P.bLR
 | .ll => bif Nat.ble 131072 b.q0 then P.base else Nat.add P.base (ownq P (Nat.sub b.p0 b.q1))
 | .lm => Nat.add P.base (ownq P (Nat.add b.p0 (Nat.div (Nat.mul b.q0 b.w0) 64)))
 | .mm => Nat.add P.base (ownq P (Nat.div (Nat.mul (Nat.sub b.q0 b.p1) b.w0) 64))
 | .mr => Nat.add P.base (ownq P (Nat.add (Nat.div (Nat.mul (Nat.sub 4194304 b.p1) b.w0) 64) b.q0))
 | .rr => bif Nat.ble 131072 b.p0 then P.base else Nat.add P.base (ownq P (Nat.sub b.q0 b.p1))
def hasT : Zp -> Bool
 | .lm => true
 | .lr => true
 | _ => false
def hasS : Zp -> Bool
 | .mr => true
 | .lr => true
 | _ => false
def oneq (P : Par) : Nat := Nat.mul P.beta 4294967296
def oneR (P : Par) : Nat := Nat.mul P.betaR 4294967296
def crossq (y z t : Nat) : Nat := Nat.add (Nat.mul y (Nat.sub 65536 t)) (Nat.mul z t)
def offq : Nat := 4398046511104
def onq : Nat := 4294967296
def tLg (be off on one : Nat) (pos m : Bool) (tl th y z : Nat) : Nat :=
 bif m then (bif pos then Nat.mul be (Nat.sub (crossq y z (bif Nat.ble y z then th else tl)) off) else Nat.mul be (Nat.sub (Nat.add off on) (crossq y z (bif Nat.ble y z then tl else th)))) else one
def sLg (be off on one : Nat) (pos m : Bool) (sl sh y z : Nat) : Nat :=
 bif m then (bif pos then Nat.mul be (Nat.sub off (crossq y z (bif Nat.ble y z then sl else sh))) else Nat.mul be (Nat.sub (Nat.add (crossq y z (bif Nat.ble y z then sh else sl)) on) off)) else one
def tL (P : Par) (pos m : Bool) (tl th y z : Nat) : Nat := tLg P.beta offq onq (oneq P) pos m tl th y z
def sL (P : Par) (pos m : Bool) (sl sh y z : Nat) : Nat := sLg P.betaR offq onq (oneR P) pos m sl sh y z
def muL (mu H : Nat) (side : Bool) (y z : Nat) : Nat := Nat.mul mu (Nat.add H (bif side then z else y))
def muR (mu : Nat) (side : Bool) (y z : Nat) : Nat := Nat.mul mu (bif side then y else z)
def outL (P : Par) (zp : Zp) (p q : Nat) : Nat :=
 match zp with
 | .ll => Nat.mul P.k1 p
 | .lm => Nat.mul P.k1 p
 | .lr => Nat.mul P.k1 (Nat.add p q)
 | .mm => 0
 | .mr => Nat.mul P.k1 q
 | .rr => Nat.mul P.k1 q
def outR (P : Par) (zp : Zp) (p q : Nat) : Nat :=
 match zp with
 | .ll => Nat.mul P.k1 q
 | .rr => Nat.mul P.k1 p
 | _ => 0
def four (a r c00 c01 c10 c11 e00 e01 e10 e11 Ua Ub Va Vb : Nat) : Bool :=
 Nat.ble (Nat.add (Nat.add Ua Va) (Nat.add a c00)) (Nat.add r e00) && Nat.ble (Nat.add (Nat.add Ua Vb) (Nat.add a c01)) (Nat.add r e01) &&
 Nat.ble (Nat.add (Nat.add Ub Va) (Nat.add a c10)) (Nat.add r e10) && Nat.ble (Nat.add (Nat.add Ub Vb) (Nat.add a c11)) (Nat.add r e11)
def sideL (P : Par) (zp : Zp) (pos m0 m1 sd : Bool) (mu tl th sl sh y z : Nat) : Nat :=
 Nat.add (muL mu P.H sd y z) (Nat.add (bif hasT zp then tL P pos m0 tl th y z else 0) (bif hasS zp then sL P pos m1 sl sh y z else 0))
def sideR (P : Par) (zp : Zp) (pos sd : Bool) (mu y z : Nat) : Nat :=
 Nat.add (muR mu sd y z) (bif pos then (bif hasS zp then oneR P else 0) else (bif hasT zp then oneq P else 0))
def leafM (P : Par) (zp : Zp) (pos m0 m1 sd : Bool) (mu tl th sl sh : Nat) (b : Bq) (K c00 c01 c10 c11 : Nat) : Bool :=
 four (sideL P zp pos m0 m1 sd mu tl th sl sh b.y0 b.z0) (sideR P zp pos sd mu b.y0 b.z0) c00 c01 c10 c11 (Nat.add K (outR P zp b.p0 b.q0)) (Nat.add K (outR P zp b.p0 b.q1)) (Nat.add K (outR P zp b.p1 b.q0)) (Nat.add K (outR P zp b.p1 b.q1)) b.U00 b.U10 b.V00 b.V10 &&
 four (sideL P zp pos m0 m1 sd mu tl th sl sh b.y0 b.z1) (sideR P zp pos sd mu b.y0 b.z1) c00 c01 c10 c11 (Nat.add K (outR P zp b.p0 b.q0)) (Nat.add K (outR P zp b.p0 b.q1)) (Nat.add K (outR P zp b.p1 b.q0)) (Nat.add K (outR P zp b.p1 b.q1)) b.U00 b.U10 b.V01 b.V11 &&
 four (sideL P zp pos m0 m1 sd mu tl th sl sh b.y1 b.z0) (sideR P zp pos sd mu b.y1 b.z0) c00 c01 c10 c11 (Nat.add K (outR P zp b.p0 b.q0)) (Nat.add K (outR P zp b.p0 b.q1)) (Nat.add K (outR P zp b.p1 b.q0)) (Nat.add K (outR P zp b.p1 b.q1)) b.U01 b.U11 b.V00 b.V10 &&
 four (sideL P zp pos m0 m1 sd mu tl th sl sh b.y1 b.z1) (sideR P zp pos sd mu b.y1 b.z1) c00 c01 c10 c11 (Nat.add K (outR P zp b.p0 b.q0)) (Nat.add K (outR P zp b.p0 b.q1)) (Nat.add K (outR P zp b.p1 b.q0)) (Nat.add K (outR P zp b.p1 b.q1)) b.U01 b.U11 b.V01 b.V11
def offV : Nat := 1125899906842624
def leafQ (P : Par) (zp : Zp) (pos : Bool) (b : Bq) (d : Nat) : Bool :=
 leafM P zp pos (Nat.beq (Nat.mod d 2) 1) (Nat.beq (Nat.mod (Nat.div d 2) 2) 1) (Nat.beq (Nat.mod (Nat.div d 4) 2) 1) (Nat.mul (Nat.div d 8) (Nat.mul P.beta 8192))
  (loq b.p0 (b.x1 zp)) (hiq b.p1 (b.x0 zp)) (loq (b.d0 zp) b.q1) (hiq (b.d1 zp) b.q0) b
  (Nat.add offV (Nat.mul (Nat.sub P.D (b.oth P zp)) 4294967296)) (outL P zp b.p0 b.q0) (outL P zp b.p0 b.q1) (outL P zp b.p1 b.q0) (outL P zp b.p1 b.q1)
def chkQ (P : Par) (zp : Zp) (pos : Bool) : Nat -> Bq -> Nat -> Option Nat
 | 0, _, _ => none
 | n + 1, b, c =>
  bif Nat.blt (Nat.mod c 16) 4 then (bif b.dead P zp || leafQ P zp pos b (Nat.mod c 16) then some (Nat.div c 16) else none)
  else bif Nat.blt (Nat.mod c 16) 9 then
   (bif b.even (Nat.sub (Nat.mod c 16) 4) then
    (match chkQ P zp pos n (b.lo (Nat.sub (Nat.mod c 16) 4)) (Nat.div c 16) with
     | none => none
     | some r => chkQ P zp pos n (b.hi (Nat.sub (Nat.mod c 16) 4)) r)
   else none)
  else (bif b.dead P zp || leafQ P zp pos b (Nat.mod (Nat.div c 16) 256) then some (Nat.div c 4096) else none)
structure Sq where
 y0 : Nat
 y1 : Nat
 t00 : Nat
 t01 : Nat
 t10 : Nat
 t11 : Nat
def Zp.pw : Zp -> Nat
 | .ll => 17367040
 | .lm => 17367040
 | .lr => 17367040
 | .mm => 4194304
 | .mr => 4194304
 | .rr => 4259840
def Zp.qw : Zp -> Nat
 | .ll => 17367040
 | .lm => 4194304
 | .lr => 4259840
 | .mm => 4194304
 | .mr => 4259840
 | .rr => 4259840
def rootQ (zp : Zp) (pos : Bool) (w0 w1 : Nat) (S R : Sq) : Bq :=
 ⟨0, zp.pw, 0, zp.qw, S.y0, S.y1, R.y0, R.y1, w0, w1,
  bif pos then Nat.sub offV S.t00 else S.t00, bif pos then Nat.sub offV S.t01 else S.t01, bif pos then Nat.sub offV S.t10 else S.t10, bif pos then Nat.sub offV S.t11 else S.t11,
  bif pos then R.t00 else Nat.sub offV R.t00, bif pos then R.t01 else Nat.sub offV R.t01, bif pos then R.t10 else Nat.sub offV R.t10, bif pos then R.t11 else Nat.sub offV R.t11⟩
def chkR (P : Par) (zp : Zp) (w0 w1 : Nat) (S : Sq) : List Sq -> List Nat -> Bool
 | [], _ => true
 | R :: l, c0 :: c1 :: cs => (chkQ P zp false 64 (rootQ zp false w0 w1 S R) c0).isSome && (chkQ P zp true 64 (rootQ zp true w0 w1 S R) c1).isSome && chkR P zp w0 w1 S l cs
 | _ :: _, _ => false
def chkRs (P : Par) (zp : Zp) (w0 w1 : Nat) (l : List Sq) : List Sq -> List (List Nat) -> Bool
 | [], _ => true
 | S :: m, c :: cs => chkR P zp w0 w1 S l c && chkRs P zp w0 w1 l m cs
 | _ :: _, [] => false
theorem chkRs_all {P : Par} {zp : Zp} {w0 w1 : Nat} {l : List Sq} : ∀ {m : List Sq} {cs : List (List Nat)}, chkRs P zp w0 w1 l m cs = true -> ∀ S ∈ m, ∃ c, chkR P zp w0 w1 S l c = true
 | [], _, _, S, hS => by simp at hS
 | R :: m, [], h, S, hS => by simp [chkRs] at h
 | R :: m, c :: cs, h, S, hS => by
  rw [chkRs, Bool.and_eq_true] at h
  rcases List.mem_cons.1 hS with e | e
  ·rw [e]
   exact ⟨c, h.1⟩
  ·exact chkRs_all h.2 S e
theorem avq_le (a b : Nat) : (a : Rat) + b <= 2 * (avq a b : Rat) := by
 have e : avq a b = (a + b + 1) / 2 := rfl
 rw [e]
 have h : a + b <= 2 * ((a + b + 1) / 2) := by omega
 have h2 : ((a + b : Nat) : Rat) <= ((2 * ((a + b + 1) / 2) : Nat) : Rat) := by exact_mod_cast h
 push_cast at h2 ⊢
 exact h2
theorem hfq_eq {a b : Nat} (h : evq a b = true) : 2 * (hfq a b : Rat) = (a : Rat) + b := by
 unfold evq at h
 simp only [Nat.add_eq, Nat.beq_eq] at h
 have h2 : ((hfq a b + hfq a b : Nat) : Rat) = ((a + b : Nat) : Rat) := by exact_mod_cast h
 push_cast at h2
 grind
theorem cdq_ge (a b : Nat) (hb : 0 < b) : a <= cdq a b * b := by
 have e : cdq a b = (a + b - 1) / b := rfl
 rw [e]
 have h := Nat.div_add_mod (a + b - 1) b
 have h2 := Nat.mod_lt (a + b - 1) hb
 rw [Nat.mul_comm] at h
 omega
theorem natLe {a b : Nat} (h : a <= b) : (a : Rat) <= (b : Rat) := by exact_mod_cast h
def Aff (f : Rat -> Rat) : Prop := ∃ a b : Rat, ∀ x, f x = a + b * x
theorem Aff.le {f : Rat -> Rat} (h : Aff f) {x0 x1 x : Rat} (h0 : x0 <= x) (h1 : x <= x1) (f0 : f x0 <= 0) (f1 : f x1 <= 0) : f x <= 0 := by
 obtain ⟨a, b, e⟩ := h
 rw [e] at f0 f1 ⊢
 rcases (Rat.le_total : 0 <= b ∨ b <= 0) with hb | hb
 ·have := Rat.mul_le_mul_of_nonneg_left h1 hb
  grind
 ·have := Rat.mul_le_mul_of_nonneg_left h0 (show 0 <= -b by grind)
  grind
theorem corner4 {f : Rat -> Rat -> Rat -> Rat -> Rat} (hp : ∀ q y z, Aff fun p => f p q y z) (hq : ∀ p y z, Aff fun q => f p q y z) (hy : ∀ p q z, Aff fun y => f p q y z) (hz : ∀ p q y, Aff fun z => f p q y z)
  {p0 p1 q0 q1 y0 y1 z0 z1 : Rat} (h : ∀ p, p = p0 ∨ p = p1 -> ∀ q, q = q0 ∨ q = q1 -> ∀ y, y = y0 ∨ y = y1 -> ∀ z, z = z0 ∨ z = z1 -> f p q y z <= 0)
  {p q y z : Rat} (a1 : p0 <= p) (a2 : p <= p1) (b1 : q0 <= q) (b2 : q <= q1) (c1 : y0 <= y) (c2 : y <= y1) (d1 : z0 <= z) (d2 : z <= z1) : f p q y z <= 0 := by
 have s1 : ∀ p, p = p0 ∨ p = p1 -> ∀ q, q = q0 ∨ q = q1 -> ∀ y, y = y0 ∨ y = y1 -> f p q y z <= 0 := fun p hp' q hq' y hy' => (hz p q y).le d1 d2 (h p hp' q hq' y hy' _ (.inl rfl)) (h p hp' q hq' y hy' _ (.inr rfl))
 have s2 : ∀ p, p = p0 ∨ p = p1 -> ∀ q, q = q0 ∨ q = q1 -> f p q y z <= 0 := fun p hp' q hq' => (hy p q z).le c1 c2 (s1 p hp' q hq' _ (.inl rfl)) (s1 p hp' q hq' _ (.inr rfl))
 have s3 : ∀ p, p = p0 ∨ p = p1 -> f p q y z <= 0 := fun p hp' => (hq p y z).le b1 b2 (s2 p hp' _ (.inl rfl)) (s2 p hp' _ (.inr rfl))
 exact (hp q y z).le a1 a2 (s3 _ (.inl rfl)) (s3 _ (.inr rfl))
def Bil (f : Rat -> Rat -> Rat) : Prop := ∃ a b c d : Rat, ∀ x y, f x y = a + b * x + (c + d * x) * y
theorem Bil.mid1 {f : Rat -> Rat -> Rat} (h : Bil f) {x0 x1 m : Rat} (hm : 2 * m = x0 + x1) (y : Rat) : 2 * f m y = f x0 y + f x1 y := by
 obtain ⟨a, b, c, d, e⟩ := h
 rw [e, e, e]
 grind
theorem Bil.mid2 {f : Rat -> Rat -> Rat} (h : Bil f) {y0 y1 m : Rat} (hm : 2 * m = y0 + y1) (x : Rat) : 2 * f x m = f x y0 + f x y1 := by
 obtain ⟨a, b, c, d, e⟩ := h
 rw [e, e, e]
 grind
structure Holds (b : Bq) (u v : Rat -> Rat -> Rat) : Prop where
 u00 : u b.p0 b.y0 <= b.U00
 u01 : u b.p0 b.y1 <= b.U01
 u10 : u b.p1 b.y0 <= b.U10
 u11 : u b.p1 b.y1 <= b.U11
 v00 : v b.q0 b.z0 <= b.V00
 v01 : v b.q0 b.z1 <= b.V01
 v10 : v b.q1 b.z0 <= b.V10
 v11 : v b.q1 b.z1 <= b.V11
theorem half_le {a b m : Rat} {A B C : Nat} (hm : 2 * m = a + b) (ha : a <= A) (hb : b <= B) (hc : C = avq A B) : m <= C := by
 subst hc
 have := avq_le A B
 grind
theorem Holds.lo {b : Bq} {u v : Rat -> Rat -> Rat} (hu : Bil u) (hv : Bil v) (h : Holds b u v) : ∀ k, b.even k = true -> Holds (b.lo k) u v
 | 0, e => by
  have m := hfq_eq (show evq b.p0 b.p1 = true from e)
  exact ⟨h.u00, h.u01, half_le (hu.mid1 m _) h.u00 h.u10 rfl, half_le (hu.mid1 m _) h.u01 h.u11 rfl, h.v00, h.v01, h.v10, h.v11⟩
 | 1, e => by
  have m := hfq_eq (show evq b.q0 b.q1 = true from e)
  exact ⟨h.u00, h.u01, h.u10, h.u11, h.v00, h.v01, half_le (hv.mid1 m _) h.v00 h.v10 rfl, half_le (hv.mid1 m _) h.v01 h.v11 rfl⟩
 | 2, e => by
  have m := hfq_eq (show evq b.y0 b.y1 = true from e)
  exact ⟨h.u00, half_le (hu.mid2 m _) h.u00 h.u01 rfl, h.u10, half_le (hu.mid2 m _) h.u10 h.u11 rfl, h.v00, h.v01, h.v10, h.v11⟩
 | 3, e => by
  have m := hfq_eq (show evq b.z0 b.z1 = true from e)
  exact ⟨h.u00, h.u01, h.u10, h.u11, h.v00, half_le (hv.mid2 m _) h.v00 h.v01 rfl, h.v10, half_le (hv.mid2 m _) h.v10 h.v11 rfl⟩
 | n + 4, e => by exact ⟨h.u00, h.u01, h.u10, h.u11, h.v00, h.v01, h.v10, h.v11⟩
theorem Holds.hi {b : Bq} {u v : Rat -> Rat -> Rat} (hu : Bil u) (hv : Bil v) (h : Holds b u v) : ∀ k, b.even k = true -> Holds (b.hi k) u v
 | 0, e => by
  have m := hfq_eq (show evq b.p0 b.p1 = true from e)
  exact ⟨half_le (hu.mid1 m _) h.u00 h.u10 rfl, half_le (hu.mid1 m _) h.u01 h.u11 rfl, h.u10, h.u11, h.v00, h.v01, h.v10, h.v11⟩
 | 1, e => by
  have m := hfq_eq (show evq b.q0 b.q1 = true from e)
  exact ⟨h.u00, h.u01, h.u10, h.u11, half_le (hv.mid1 m _) h.v00 h.v10 rfl, half_le (hv.mid1 m _) h.v01 h.v11 rfl, h.v10, h.v11⟩
 | 2, e => by
  have m := hfq_eq (show evq b.y0 b.y1 = true from e)
  exact ⟨half_le (hu.mid2 m _) h.u00 h.u01 rfl, h.u01, half_le (hu.mid2 m _) h.u10 h.u11 rfl, h.u11, h.v00, h.v01, h.v10, h.v11⟩
 | 3, e => by
  have m := hfq_eq (show evq b.z0 b.z1 = true from e)
  exact ⟨h.u00, h.u01, h.u10, h.u11, half_le (hv.mid2 m _) h.v00 h.v01 rfl, h.v01, half_le (hv.mid2 m _) h.v10 h.v11 rfl, h.v11⟩
 | n + 4, e => by exact ⟨h.u00, h.u01, h.u10, h.u11, h.v00, h.v01, h.v10, h.v11⟩
structure Inb (b : Bq) (p q y z W : Rat) : Prop where
 p0 : (b.p0 : Rat) <= p
 p1 : p <= b.p1
 q0 : (b.q0 : Rat) <= q
 q1 : q <= b.q1
 y0 : (b.y0 : Rat) <= y
 y1 : y <= b.y1
 z0 : (b.z0 : Rat) <= z
 z1 : z <= b.z1
 w0 : (b.w0 : Rat) <= W
 w1 : W <= b.w1
theorem Inb.cut {b : Bq} {p q y z W : Rat} (h : Inb b p q y z W) : ∀ k, Inb (b.lo k) p q y z W ∨ Inb (b.hi k) p q y z W
 | 0 => by
  rcases (Rat.le_total : p <= (hfq b.p0 b.p1 : Nat) ∨ _) with c | c
  ·exact .inl ⟨h.p0, c, h.q0, h.q1, h.y0, h.y1, h.z0, h.z1, h.w0, h.w1⟩
  ·exact .inr ⟨c, h.p1, h.q0, h.q1, h.y0, h.y1, h.z0, h.z1, h.w0, h.w1⟩
 | 1 => by
  rcases (Rat.le_total : q <= (hfq b.q0 b.q1 : Nat) ∨ _) with c | c
  ·exact .inl ⟨h.p0, h.p1, h.q0, c, h.y0, h.y1, h.z0, h.z1, h.w0, h.w1⟩
  ·exact .inr ⟨h.p0, h.p1, c, h.q1, h.y0, h.y1, h.z0, h.z1, h.w0, h.w1⟩
 | 2 => by
  rcases (Rat.le_total : y <= (hfq b.y0 b.y1 : Nat) ∨ _) with c | c
  ·exact .inl ⟨h.p0, h.p1, h.q0, h.q1, h.y0, c, h.z0, h.z1, h.w0, h.w1⟩
  ·exact .inr ⟨h.p0, h.p1, h.q0, h.q1, c, h.y1, h.z0, h.z1, h.w0, h.w1⟩
 | 3 => by
  rcases (Rat.le_total : z <= (hfq b.z0 b.z1 : Nat) ∨ _) with c | c
  ·exact .inl ⟨h.p0, h.p1, h.q0, h.q1, h.y0, h.y1, h.z0, c, h.w0, h.w1⟩
  ·exact .inr ⟨h.p0, h.p1, h.q0, h.q1, h.y0, h.y1, c, h.z1, h.w0, h.w1⟩
 | n + 4 => by
  rcases (Rat.le_total : W <= (hfq b.w0 b.w1 : Nat) ∨ _) with c | c
  ·exact .inl ⟨h.p0, h.p1, h.q0, h.q1, h.y0, h.y1, h.z0, h.z1, h.w0, c⟩
  ·exact .inr ⟨h.p0, h.p1, h.q0, h.q1, h.y0, h.y1, h.z0, h.z1, c, h.w1⟩
structure Ends (P : Par) (zp : Zp) (p q y z W : Rat) : Prop where
 h1 : z - y <= P.H
 h2 : y - z <= P.H
 far : zp = .ll ∨ zp = .lm ∨ zp = .lr -> p <= 65536 * (66 + W)
 ll : zp = .ll -> q <= p
 mm : zp = .mm -> p <= q
 rr : zp = .rr -> p <= q
 mr : zp = .mr -> p <= 4194304
theorem blt_rat {a b : Nat} (h : Nat.blt a b = true) : (a : Rat) + 1 <= b := by
 have h2 : a + 1 <= b := by simpa [Nat.blt] using h
 have := natLe h2
 push_cast at this
 exact this
theorem Bq.dead_no {b : Bq} {P : Par} {zp : Zp} (h : b.dead P zp = true) {p q y z W : Rat} (hb : Inb b p q y z W) (he : Ends P zp p q y z W) : False := by
 unfold Bq.dead at h
 rw [Bool.or_eq_true, Bool.or_eq_true] at h
 have i1 := hb.y1
 have i2 := hb.z0
 have i3 := hb.z1
 have i4 := hb.y0
 have i5 := hb.p0
 have i6 := hb.p1
 have i7 := hb.q0
 have i8 := hb.q1
 have i9 := hb.w1
 have e1 := he.h1
 have e2 := he.h2
 have far : (Nat.blt (Nat.mul 65536 (Nat.add 66 b.w1)) b.p0) = true -> p <= 65536 * (66 + W) -> False := by
  intro k1 k2
  have k3 := blt_rat k1
  simp only [Nat.mul_eq, Nat.add_eq] at k3
  push_cast at k3
  grind
 rcases h with (h | h) | h
 ·have k := blt_rat h
  simp only [Nat.add_eq] at k
  push_cast at k
  grind
 ·have k := blt_rat h
  simp only [Nat.add_eq] at k
  push_cast at k
  grind
 ·cases zp
  ·rcases (Bool.or_eq_true _ _).mp h with h | h
   ·have k := blt_rat h
    have := he.ll rfl
    grind
   ·exact far h (he.far (.inl rfl))
  ·exact far h (he.far (.inr (.inl rfl)))
  ·exact far h (he.far (.inr (.inr rfl)))
  ·have k := blt_rat h
   have := he.mm rfl
   grind
  ·simp at h
  ·have k := blt_rat h
   have := he.rr rfl
   grind
def clq (v : Rat) : Rat := if v <= 0 then 0 else if 65536 <= v then 65536 else v
theorem clq_bd (v : Rat) : 0 <= clq v /\ clq v <= 65536 /\ (clq v = 0 ∨ clq v <= v) /\ (clq v = 65536 ∨ v <= clq v) := by
 unfold clq
 split <;> (try split) <;> grind
def sgq (pos : Bool) : Rat := if pos then 1 else -1
def tR (P : Par) (pos : Bool) (Y : Rat) : Rat := sgq pos * (P.beta * 65536) * clq (Y - 67108864)
def sR (P : Par) (pos : Bool) (Y : Rat) : Rat := -(sgq pos * (P.betaR * 65536) * clq (Y + 65536 - 67108864))
def tA (P : Par) (pos m : Bool) : Rat × Rat × Rat :=
 if m then (if pos then (0, -(P.beta * 65536 * 67108864), P.beta * 65536) else (-(P.beta * 4294967296), P.beta * 65536 * 67108864, -(P.beta * 65536)))
 else (if pos then (P.beta * 4294967296, P.beta * 4294967296, 0) else (0, 0, 0))
def sA (P : Par) (pos m : Bool) : Rat × Rat × Rat :=
 if m then (if pos then (-(P.betaR * 4294967296), P.betaR * 65536 * (67108864 - 65536), -(P.betaR * 65536)) else (0, -(P.betaR * 65536 * (67108864 - 65536)), P.betaR * 65536))
 else (if pos then (0, 0, 0) else (P.betaR * 4294967296, P.betaR * 4294967296, 0))
theorem mulR {a b c : Rat} (h : a <= b) (hc : 0 <= c) : c * a <= c * b := Rat.mul_le_mul_of_nonneg_left h hc
theorem natNn (a : Nat) : (0 : Rat) <= a := by exact_mod_cast Nat.zero_le a
theorem tA_real (P : Par) (pos m : Bool) (Y : Rat) : tR P pos Y <= (tA P pos m).1 ∨ tR P pos Y <= (tA P pos m).2.1 + (tA P pos m).2.2 * Y := by
 obtain ⟨c1, c2, c3, c4⟩ := clq_bd (Y - 67108864)
 have hb : (0 : Rat) <= P.beta * 65536 := Rat.mul_nonneg (natNn _) (by decide)
 unfold tR tA sgq
 generalize clq (Y - 67108864) = k at *
 have m1 := mulR c1 hb
 have m2 := mulR c2 hb
 generalize hB : (P.beta : Rat) * 65536 = B at *
 have e : (P.beta : Rat) * 4294967296 = B * 65536 := by rw [<- hB]; grind
 cases m <;> cases pos <;> simp only [Bool.false_eq_true, if_false, if_true]
 ·left; grind
 ·left; grind
 ·rcases c4 with c | c
  ·left; rw [c]; grind
  ·right
   have := mulR c hb
   grind
 ·rcases c3 with c | c
  ·left; rw [c]; grind
  ·right
   have := mulR c hb
   grind
theorem sA_real (P : Par) (pos m : Bool) (Y : Rat) : sR P pos Y <= (sA P pos m).1 ∨ sR P pos Y <= (sA P pos m).2.1 + (sA P pos m).2.2 * Y := by
 obtain ⟨c1, c2, c3, c4⟩ := clq_bd (Y + 65536 - 67108864)
 have hb : (0 : Rat) <= P.betaR * 65536 := Rat.mul_nonneg (natNn _) (by decide)
 unfold sR sA sgq
 generalize clq (Y + 65536 - 67108864) = k at *
 have m1 := mulR c1 hb
 have m2 := mulR c2 hb
 generalize hB : (P.betaR : Rat) * 65536 = B at *
 have e : (P.betaR : Rat) * 4294967296 = B * 65536 := by rw [<- hB]; grind
 cases m <;> cases pos <;> simp only [Bool.false_eq_true, if_false, if_true]
 ·left; grind
 ·left; grind
 ·rcases c3 with c | c
  ·left; rw [c]; grind
  ·right
   have := mulR c hb
   grind
 ·rcases c4 with c | c
  ·left; rw [c]; grind
  ·right
   have := mulR c hb
   grind
theorem sub_rat (a b : Nat) : (a : Rat) - b <= ((a - b : Nat) : Rat) /\ (0 : Rat) <= ((a - b : Nat) : Rat) := by
 refine ⟨?_, natNn _⟩
 have h : a <= (a - b) + b := by omega
 have := natLe h
 push_cast at this
 grind
theorem crossq_rat {y z T : Nat} (h : T <= 65536) : (crossq y z T : Rat) = y * 65536 + ((z : Rat) - y) * T := by
 have e : crossq y z T = y * (65536 - T) + z * T := rfl
 obtain ⟨d, hd⟩ : ∃ d, 65536 = T + d := ⟨65536 - T, by omega⟩
 have h2 : 65536 - T = d := by omega
 have h3 : (65536 : Rat) = T + d := by exact_mod_cast hd
 rw [e, h2]
 push_cast
 rw [h3]
 grind
theorem cross_hi {y z tl th : Nat} {t : Rat} (h0 : (tl : Rat) <= 65536 * t) (h1 : 65536 * t <= th) (hth : th <= 65536) (htl : tl <= 65536) :
  65536 * ((y : Rat) + ((z : Rat) - y) * t) <= (crossq y z (bif Nat.ble y z then th else tl) : Rat) /\ (crossq y z (bif Nat.ble y z then tl else th) : Rat) <= 65536 * ((y : Rat) + ((z : Rat) - y) * t) := by
 by_cases c : y <= z
 ·have e : Nat.ble y z = true := by rw [Nat.ble_eq]; exact c
  rw [e, cond_true, cond_true, crossq_rat hth, crossq_rat htl]
  have d := natLe c
  have m1 := Rat.mul_le_mul_of_nonneg_left h1 (show 0 <= (z : Rat) - y by grind)
  have m2 := Rat.mul_le_mul_of_nonneg_left h0 (show 0 <= (z : Rat) - y by grind)
  constructor <;> grind
 ·have e : Nat.ble y z = false := by
   rw [<- Bool.not_eq_true, Nat.ble_eq]
   exact c
  rw [e, cond_false, cond_false, crossq_rat hth, crossq_rat htl]
  have d := natLe (show z <= y by omega)
  have m1 := Rat.mul_le_mul_of_nonneg_left h1 (show 0 <= (y : Rat) - z by grind)
  have m2 := Rat.mul_le_mul_of_nonneg_left h0 (show 0 <= (y : Rat) - z by grind)
  constructor <;> grind
theorem cm_up {b Y C d : Rat} (hb : 0 <= b) (k : 65536 * Y <= C) (s1 : C - 4398046511104 <= d) (s2 : 0 <= d) : 0 <= b * d - 0 /\ -(b * 65536 * 67108864) + b * 65536 * Y <= b * d - 0 := by
 have m1 := mulR s1 hb
 have m2 := mulR s2 hb
 have m3 := mulR k hb
 constructor <;> grind
theorem cm_dn {b Y C d : Rat} (hb : 0 <= b) (k : C <= 65536 * Y) (s1 : 4398046511104 + 4294967296 - C <= d) (s2 : 0 <= d) : -(b * 4294967296) <= b * d - b * 4294967296 /\ b * 65536 * 67108864 + -(b * 65536) * Y <= b * d - b * 4294967296 := by
 have m1 := mulR s1 hb
 have m2 := mulR s2 hb
 have m3 := mulR k hb
 constructor <;> grind
theorem cn_up {b Y C d : Rat} (hb : 0 <= b) (k : 65536 * Y <= C) (s1 : C + 4294967296 - 4398046511104 <= d) (s2 : 0 <= d) : 0 <= b * d - 0 /\ -(b * 65536 * (67108864 - 65536)) + b * 65536 * Y <= b * d - 0 := by
 have m1 := mulR s1 hb
 have m2 := mulR s2 hb
 have m3 := mulR k hb
 constructor <;> grind
theorem cn_dn {b Y C d : Rat} (hb : 0 <= b) (k : C <= 65536 * Y) (s1 : 4398046511104 - C <= d) (s2 : 0 <= d) : -(b * 4294967296) <= b * d - b * 4294967296 /\ b * 65536 * (67108864 - 65536) + -(b * 65536) * Y <= b * d - b * 4294967296 := by
 have m1 := mulR s1 hb
 have m2 := mulR s2 hb
 have m3 := mulR k hb
 constructor <;> grind
theorem nmul (a b : Nat) : Nat.mul a b = a * b := (rfl)
theorem nsub (a b : Nat) : Nat.sub a b = a - b := (rfl)
theorem nadd (a b : Nat) : Nat.add a b = a + b := (rfl)
theorem ndiv (a b : Nat) : Nat.div a b = a / b := (rfl)
theorem one_rat (P : Par) : (oneq P : Rat) = P.beta * 4294967296 := by
 have e1 : oneq P = P.beta * 4294967296 := rfl
 rw [e1]
 push_cast
 rfl
theorem oneR_rat (P : Par) : (oneR P : Rat) = P.betaR * 4294967296 := by
 have e1 : oneR P = P.betaR * 4294967296 := rfl
 rw [e1]
 push_cast
 rfl
theorem off_rat : (offq : Rat) = 4398046511104 /\ (onq : Rat) = 4294967296 := by
 have h1 : offq = 4398046511104 := (rfl)
 have h2 : onq = 4294967296 := (rfl)
 constructor
 ·rw [h1]; push_cast; rfl
 ·rw [h2]; push_cast; rfl
theorem tA_corng (P : Par) {off on one : Nat} (h1 : (off : Rat) = 4398046511104) (h2 : (on : Rat) = 4294967296) (h3 : (one : Rat) = P.beta * 4294967296) (pos m : Bool) {y z tl th : Nat} {Y : Rat}
  (k1 : 65536 * Y <= (crossq y z (bif Nat.ble y z then th else tl) : Rat)) (k2 : (crossq y z (bif Nat.ble y z then tl else th) : Rat) <= 65536 * Y) :
  (tA P pos m).1 <= (tLg P.beta off on one pos m tl th y z : Rat) - (if pos then (0 : Rat) else (P.beta : Rat) * 4294967296) /\ (tA P pos m).2.1 + (tA P pos m).2.2 * Y <= (tLg P.beta off on one pos m tl th y z : Rat) - (if pos then (0 : Rat) else (P.beta : Rat) * 4294967296) := by
 have hb : (0 : Rat) <= P.beta := natNn _
 unfold tA tLg
 generalize crossq y z (bif Nat.ble y z then th else tl) = Ch at *
 generalize crossq y z (bif Nat.ble y z then tl else th) = Cl at *
 cases m <;> cases pos <;> simp only [Bool.false_eq_true, if_false, if_true, cond_true, cond_false, nmul, nsub, nadd]
 ·rw [h3]
  clear k1 k2
  constructor <;> grind
 ·rw [h3]
  clear k1 k2
  constructor <;> grind
 ·obtain ⟨s1, s2⟩ := sub_rat (off + on) Cl
  rw [Rat.natCast_mul]
  rw [Rat.natCast_add, h1, h2] at s1
  exact cm_dn hb k2 s1 s2
 ·obtain ⟨s1, s2⟩ := sub_rat Ch off
  rw [Rat.natCast_mul]
  rw [h1] at s1
  exact cm_up hb k1 s1 s2
theorem sA_corng (P : Par) {off on one : Nat} (h1 : (off : Rat) = 4398046511104) (h2 : (on : Rat) = 4294967296) (h3 : (one : Rat) = P.betaR * 4294967296) (pos m : Bool) {y z tl th : Nat} {Y : Rat}
  (k1 : 65536 * Y <= (crossq y z (bif Nat.ble y z then th else tl) : Rat)) (k2 : (crossq y z (bif Nat.ble y z then tl else th) : Rat) <= 65536 * Y) :
  (sA P pos m).1 <= (sLg P.betaR off on one pos m tl th y z : Rat) - (if pos then (P.betaR : Rat) * 4294967296 else (0 : Rat)) /\ (sA P pos m).2.1 + (sA P pos m).2.2 * Y <= (sLg P.betaR off on one pos m tl th y z : Rat) - (if pos then (P.betaR : Rat) * 4294967296 else (0 : Rat)) := by
 have hb : (0 : Rat) <= P.betaR := natNn _
 unfold sA sLg
 generalize crossq y z (bif Nat.ble y z then th else tl) = Ch at *
 generalize crossq y z (bif Nat.ble y z then tl else th) = Cl at *
 cases m <;> cases pos <;> simp only [Bool.false_eq_true, if_false, if_true, cond_true, cond_false, nmul, nsub, nadd]
 ·rw [h3]
  clear k1 k2
  constructor <;> grind
 ·rw [h3]
  clear k1 k2
  constructor <;> grind
 ·obtain ⟨s1, s2⟩ := sub_rat (Ch + on) off
  rw [Rat.natCast_mul]
  rw [Rat.natCast_add, h1, h2] at s1
  exact cn_up hb k1 s1 s2
 ·obtain ⟨s1, s2⟩ := sub_rat off Cl
  rw [Rat.natCast_mul]
  rw [h1] at s1
  exact cn_dn hb k2 s1 s2
theorem tA_corn (P : Par) (pos m : Bool) {y z tl th : Nat} {t : Rat} (h0 : (tl : Rat) <= 65536 * t) (h1 : 65536 * t <= th) (hth : th <= 65536) (htl : tl <= 65536) :
  (tA P pos m).1 <= (tL P pos m tl th y z : Rat) - (if pos then (0 : Rat) else (P.beta : Rat) * 4294967296) /\ (tA P pos m).2.1 + (tA P pos m).2.2 * ((y : Rat) + ((z : Rat) - y) * t) <= (tL P pos m tl th y z : Rat) - (if pos then (0 : Rat) else (P.beta : Rat) * 4294967296) := by
 obtain ⟨k1, k2⟩ := cross_hi (y := y) (z := z) h0 h1 hth htl
 unfold tL
 exact tA_corng P off_rat.1 off_rat.2 (one_rat P) pos m k1 k2
theorem sA_corn (P : Par) (pos m : Bool) {y z tl th : Nat} {t : Rat} (h0 : (tl : Rat) <= 65536 * t) (h1 : 65536 * t <= th) (hth : th <= 65536) (htl : tl <= 65536) :
  (sA P pos m).1 <= (sL P pos m tl th y z : Rat) - (if pos then (P.betaR : Rat) * 4294967296 else (0 : Rat)) /\ (sA P pos m).2.1 + (sA P pos m).2.2 * ((y : Rat) + ((z : Rat) - y) * t) <= (sL P pos m tl th y z : Rat) - (if pos then (P.betaR : Rat) * 4294967296 else (0 : Rat)) := by
 obtain ⟨k1, k2⟩ := cross_hi (y := y) (z := z) h0 h1 hth htl
 unfold sL
 exact sA_corng P off_rat.1 off_rat.2 (oneR_rat P) pos m k1 k2
theorem loq_spec (a x : Nat) : loq a x * (a + x) <= 65536 * a /\ loq a x <= 65536 := by
 have e : loq a x = 65536 * a / (a + x) := by unfold loq; rw [nmul, nadd, ndiv]
 rw [e]
 refine ⟨Nat.div_mul_le_self _ _, ?_⟩
 rcases Nat.eq_zero_or_pos (a + x) with h | h
 ·rw [h, Nat.div_zero]; omega
 ·exact Nat.div_le_of_le_mul (by rw [Nat.mul_comm]; exact Nat.mul_le_mul (by omega) (Nat.le_refl _))
theorem hiq_spec (a x : Nat) : hiq a x <= 65536 /\ (hiq a x = 65536 ∨ 65536 * a <= hiq a x * (a + x)) := by
 unfold hiq
 rw [nadd, nmul]
 cases h1 : Nat.beq (a + x) 0
 ·have h : 0 < a + x := by
   rcases Nat.eq_zero_or_pos (a + x) with h | h
   ·rw [h] at h1; simp at h1
   ·exact h
  rw [cond_false]
  have g := cdq_ge (65536 * a) (a + x) h
  cases h2 : Nat.ble (cdq (65536 * a) (a + x)) 65536
  ·rw [cond_false]
   exact ⟨Nat.le_refl _, .inl rfl⟩
  ·rw [cond_true]
   rw [Nat.ble_eq] at h2
   exact ⟨h2, .inr g⟩
 ·rw [cond_true]
  exact ⟨Nat.le_refl _, .inl rfl⟩
theorem rng_q {a0 a1 x0 x1 : Nat} {A X t : Rat} (h0 : (a0 : Rat) <= A) (h1 : A <= a1) (g0 : (x0 : Rat) <= X) (g1 : X <= x1) (hp : 0 < A + X) (ht : t * (A + X) = A) :
  (loq a0 x1 : Rat) <= 65536 * t /\ 65536 * t <= hiq a1 x0 := by
 obtain ⟨l1, l2⟩ := loq_spec a0 x1
 obtain ⟨k1, k2⟩ := hiq_spec a1 x0
 have c0 := natNn a0
 have c1 := natNn x0
 constructor
 ·have l1 := natLe l1
  have l2 := natLe l2
  have c2 := natNn (loq a0 x1)
  push_cast at l1 l2
  generalize (loq a0 x1 : Rat) = L at *
  have m1 := Rat.mul_nonneg c2 (show 0 <= (x1 : Rat) - X by grind)
  have m2 := Rat.mul_nonneg (show (0 : Rat) <= 65536 - L by grind) (show 0 <= A - (a0 : Rat) by grind)
  have e : L * (A + X) <= (65536 * t) * (A + X) := by grind
  exact Rat.le_of_mul_le_mul_right e hp
 ·have ht1 : t <= 1 := by
   have e : t * (A + X) <= 1 * (A + X) := by grind
   exact Rat.le_of_mul_le_mul_right e hp
  rcases k2 with k2 | k2
  ·rw [k2]; push_cast; grind
  ·have k2 := natLe k2
   have k1 := natLe k1
   have c2 := natNn (hiq a1 x0)
   push_cast at k1 k2
   generalize (hiq a1 x0 : Rat) = L at *
   have m1 := Rat.mul_nonneg c2 (show 0 <= X - (x0 : Rat) by grind)
   have m2 := Rat.mul_nonneg (show (0 : Rat) <= 65536 - L by grind) (show 0 <= (a1 : Rat) - A by grind)
   have e : (65536 * t) * (A + X) <= L * (A + X) := by grind
   exact Rat.le_of_mul_le_mul_right e hp
def tX (zp : Zp) (q W : Rat) : Rat :=
 match zp with
 | .lm => q * W / 64
 | _ => 65536 * W + q
def sD (zp : Zp) (p W : Rat) : Rat :=
 match zp with
 | .mr => (4194304 - p) * W / 64
 | _ => p + 65536 * W
theorem div64_le (a : Nat) : ((a / 64 : Nat) : Rat) <= (a : Rat) / 64 := by
 have := natLe (show (a / 64) * 64 <= a by omega)
 push_cast at this
 grind
theorem cdq64_ge (a : Nat) : (a : Rat) / 64 <= (cdq a 64 : Rat) := by
 have := natLe (cdq_ge a 64 (by decide))
 push_cast at this
 grind
theorem mulMono {a b c d : Rat} (h1 : a <= b) (h2 : c <= d) (ha : 0 <= a) (hc : 0 <= c) : a * c <= b * d := by
 have m1 := Rat.mul_le_mul_of_nonneg_left h2 ha
 have m2 := Rat.mul_le_mul_of_nonneg_right h1 (show 0 <= d by grind)
 grind
theorem x_in {b : Bq} {p q y z W : Rat} (h : Inb b p q y z W) (zp : Zp) : (b.x0 zp : Rat) <= tX zp q W /\ tX zp q W <= b.x1 zp := by
 have c1 := natNn b.q0
 have c2 := natNn b.w0
 have h1 := h.q0
 have h2 := h.q1
 have h3 := h.w0
 have h4 := h.w1
 have gen : ((65536 * b.w0 + b.q0 : Nat) : Rat) <= 65536 * W + q /\ 65536 * W + q <= ((65536 * b.w1 + b.q1 : Nat) : Rat) := by
  push_cast
  constructor <;> grind
 cases zp
 ·exact gen
 ·have e1 : b.x0 .lm = b.q0 * b.w0 / 64 := by unfold Bq.x0; simp only [nmul, ndiv]
  have e2 : b.x1 .lm = cdq (b.q1 * b.w1) 64 := by unfold Bq.x1; simp only [nmul]
  rw [e1, e2]
  have f1 := div64_le (b.q0 * b.w0)
  have f2 := cdq64_ge (b.q1 * b.w1)
  have m1 := mulMono h1 h3 c1 c2
  have m2 := mulMono h2 h4 (by grind) (by grind)
  rw [Rat.natCast_mul] at f1 f2
  unfold tX
  simp only
  constructor <;> grind
 ·exact gen
 ·exact gen
 ·exact gen
 ·exact gen
theorem d_in {b : Bq} {p q y z W : Rat} (h : Inb b p q y z W) (zp : Zp) (hm : zp = .mr -> p <= 4194304) : (b.d0 zp : Rat) <= sD zp p W /\ sD zp p W <= b.d1 zp := by
 have c1 := natNn b.p0
 have c2 := natNn b.w0
 have h1 := h.p0
 have h2 := h.p1
 have h3 := h.w0
 have h4 := h.w1
 have gen : ((b.p0 + 65536 * b.w0 : Nat) : Rat) <= p + 65536 * W /\ p + 65536 * W <= ((b.p1 + 65536 * b.w1 : Nat) : Rat) := by
  push_cast
  constructor <;> grind
 cases zp
 ·exact gen
 ·exact gen
 ·exact gen
 ·exact gen
 ·have hm := hm rfl
  have e1 : b.d0 .mr = (4194304 - b.p1) * b.w0 / 64 := by unfold Bq.d0; simp only [nmul, ndiv, nsub]
  have e2 : b.d1 .mr = cdq ((4194304 - b.p0) * b.w1) 64 := by unfold Bq.d1; simp only [nmul, nsub]
  rw [e1, e2]
  have f1 := div64_le ((4194304 - b.p1) * b.w0)
  have f2 := cdq64_ge ((4194304 - b.p0) * b.w1)
  rw [Rat.natCast_mul] at f1 f2
  have s1 : ((4194304 - b.p1 : Nat) : Rat) <= 4194304 - p := by
   rcases Nat.le_total b.p1 4194304 with c | c
   ·obtain ⟨d, hd⟩ : ∃ d, 4194304 = b.p1 + d := ⟨4194304 - b.p1, by omega⟩
    have e : 4194304 - b.p1 = d := by omega
    have e3 : (4194304 : Rat) = b.p1 + d := by exact_mod_cast hd
    rw [e]
    grind
   ·have e : 4194304 - b.p1 = 0 := by omega
    rw [e]
    push_cast
    grind
  have s2 : 4194304 - p <= ((4194304 - b.p0 : Nat) : Rat) := by
   have := (sub_rat 4194304 b.p0).1
   push_cast at this
   grind
  have m1 := mulMono s1 h3 (natNn _) c2
  have m2 := mulMono s2 h4 (by grind) (by grind)
  unfold sD
  simp only
  constructor <;> grind
 ·exact gen
def dxR (zp : Zp) (p q W : Rat) : Rat :=
 match zp with
 | .ll => p - q
 | .lm => p + q * W / 64
 | .mm => (q - p) * W / 64
 | .mr => (4194304 - p) * W / 64 + q
 | _ => q - p
def ownRq (P : Par) (dx : Rat) : Rat :=
 if 2621440 <= dx then ((P.own * P.nown / 40 : Nat) : Rat) else if 655360 <= dx then ((P.own * P.nown / 10 : Nat) : Rat) else if 262144 <= dx then ((P.own * P.nown / 4 : Nat) : Rat) else P.own
def othR (P : Par) (zp : Zp) (p q W : Rat) : Rat :=
 match zp with
 | .lr => P.bLR
 | .ll => if 131072 <= q then P.base else P.base + ownRq P (dxR .ll p q W)
 | .lm => P.base + ownRq P (dxR .lm p q W)
 | .mm => P.base + ownRq P (dxR .mm p q W)
 | .mr => P.base + ownRq P (dxR .mr p q W)
 | .rr => if 131072 <= p then P.base else P.base + ownRq P (dxR .rr p q W)
structure ParOk (P : Par) : Prop where
 o1 : P.base + P.own <= P.D
 o2 : P.bLR <= P.D
 o3 : P.nown <= 4
theorem own_le {P : Par} (h : ParOk P) {d : Nat} {dx : Rat} (hd : (d : Rat) <= dx) : ownRq P dx <= (ownq P d : Rat) := by
 have h1 : P.own * P.nown <= 4 * P.own := by
  have := Nat.mul_le_mul_left P.own h.o3
  omega
 have a1 := natLe (show P.own * P.nown / 40 <= P.own * P.nown / 10 by omega)
 have a2 := natLe (show P.own * P.nown / 10 <= P.own * P.nown / 4 by omega)
 have a3 := natLe (show P.own * P.nown / 4 <= P.own by omega)
 unfold ownRq ownq
 simp only [nmul, ndiv]
 have cnv : ∀ k : Nat, Nat.ble k d = true -> (k : Rat) <= dx := fun k hk => by
  rw [Nat.ble_eq] at hk
  have := natLe hk
  grind
 cases b1 : Nat.ble 2621440 d
 ·rw [cond_false]
  cases b2 : Nat.ble 655360 d
  ·rw [cond_false]
   cases b3 : Nat.ble 262144 d
   ·rw [cond_false]
    split <;> (try split) <;> (try split) <;> grind
   ·rw [cond_true]
    have := cnv _ b3
    push_cast at this
    split <;> (try split) <;> (try split) <;> grind
  ·rw [cond_true]
   have := cnv _ b2
   push_cast at this
   split <;> (try split) <;> (try split) <;> grind
 ·rw [cond_true]
  have := cnv _ b1
  push_cast at this
  rw [if_pos this]
  exact Rat.le_refl
theorem ownq_le {P : Par} (h : ParOk P) (d : Nat) : ownq P d <= P.own := by
 have h1 : P.own * P.nown <= 4 * P.own := by
  have := Nat.mul_le_mul_left P.own h.o3
  omega
 unfold ownq
 simp only [nmul, ndiv]
 cases Nat.ble 2621440 d <;> cases Nat.ble 655360 d <;> cases Nat.ble 262144 d <;> simp only [cond_true, cond_false] <;> omega
theorem oth_le {P : Par} (h : ParOk P) {b : Bq} {p q y z W : Rat} (hb : Inb b p q y z W) (zp : Zp) (he : Ends P zp p q y z W) : othR P zp p q W <= (b.oth P zp : Rat) /\ b.oth P zp <= P.D := by
 have g1 := h.o1
 have g2 := h.o2
 have cw := natNn b.w0
 have h3 := hb.w0
 have own0 : ∀ dx, 0 <= ownRq P dx := fun dx => by
  unfold ownRq
  split
  ·exact natNn _
  ·split
   ·exact natNn _
   ·split
    ·exact natNn _
    ·exact natNn _
 have subLe : ∀ (a b : Nat) (x y : Rat), (a : Rat) <= x -> y <= (b : Rat) -> y <= x -> ((a - b : Nat) : Rat) <= x - y := by
  intro a b x y i1 i2 i3
  rcases Nat.le_total b a with c | c
  ·obtain ⟨d, hd⟩ : ∃ d, a = b + d := ⟨a - b, by omega⟩
   have e : a - b = d := by omega
   have e3 : (a : Rat) = b + d := by exact_mod_cast hd
   rw [e]
   grind
  ·have e : a - b = 0 := by omega
   rw [e]
   push_cast
   grind
 cases zp
 ·have k := own_le h (d := b.p0 - b.q1) (dx := dxR .ll p q W) (by
   unfold dxR
   simp only
   exact subLe _ _ _ _ hb.p0 hb.q1 (he.ll rfl))
  have k2 := ownq_le h (b.p0 - b.q1)
  have o0 := own0 (dxR .ll p q W)
  have e : b.oth P .ll = bif Nat.ble 131072 b.q0 then P.base else P.base + ownq P (b.p0 - b.q1) := by unfold Bq.oth; simp only [nadd, nsub]
  rw [e]
  unfold othR
  simp only
  cases c : Nat.ble 131072 b.q0
  ·rw [cond_false]
   refine ⟨?_, by omega⟩
   push_cast
   split <;> grind
  ·rw [cond_true]
   rw [Nat.ble_eq] at c
   have c2 := natLe c
   push_cast at c2
   have i := hb.q0
   rw [if_pos (by grind)]
   exact ⟨Rat.le_refl, by omega⟩
 ·have k := own_le h (d := b.p0 + b.q0 * b.w0 / 64) (dx := dxR .lm p q W) (by
   have f := (x_in hb .lm).1
   have e1 : b.x0 .lm = b.q0 * b.w0 / 64 := by unfold Bq.x0; simp only [nmul, ndiv]
   rw [e1] at f
   unfold tX at f
   simp only at f
   have i1 := hb.p0
   unfold dxR
   simp only
   push_cast at f ⊢
   grind)
  have k2 := ownq_le h (b.p0 + b.q0 * b.w0 / 64)
  have e : b.oth P .lm = P.base + ownq P (b.p0 + b.q0 * b.w0 / 64) := by unfold Bq.oth; simp only [nadd, nmul, ndiv]
  rw [e]
  refine ⟨?_, by omega⟩
  unfold othR
  push_cast at k ⊢
  grind
 ·exact ⟨Rat.le_refl, g2⟩
 ·have k := own_le h (d := (b.q0 - b.p1) * b.w0 / 64) (dx := dxR .mm p q W) (by
   have f := div64_le ((b.q0 - b.p1) * b.w0)
   have hpq := he.mm rfl
   have s : ((b.q0 - b.p1 : Nat) : Rat) <= q - p := by
    have i1 := hb.q0
    have i2 := hb.p1
    rcases Nat.le_total b.p1 b.q0 with c | c
    ·obtain ⟨d, hd⟩ : ∃ d, b.q0 = b.p1 + d := ⟨b.q0 - b.p1, by omega⟩
     have e : b.q0 - b.p1 = d := by omega
     have e3 : (b.q0 : Rat) = b.p1 + d := by exact_mod_cast hd
     rw [e]
     grind
    ·have e : b.q0 - b.p1 = 0 := by omega
     rw [e]
     push_cast
     grind
   have m := mulMono s h3 (natNn _) cw
   rw [Rat.natCast_mul] at f
   unfold dxR
   simp only
   grind)
  have k2 := ownq_le h ((b.q0 - b.p1) * b.w0 / 64)
  have e : b.oth P .mm = P.base + ownq P ((b.q0 - b.p1) * b.w0 / 64) := by unfold Bq.oth; simp only [nadd, nmul, ndiv, nsub]
  rw [e]
  refine ⟨?_, by omega⟩
  unfold othR
  push_cast
  grind
 ·have k := own_le h (d := (4194304 - b.p1) * b.w0 / 64 + b.q0) (dx := dxR .mr p q W) (by
   have f := (d_in hb .mr he.mr).1
   have e1 : b.d0 .mr = (4194304 - b.p1) * b.w0 / 64 := by unfold Bq.d0; simp only [nmul, ndiv, nsub]
   rw [e1] at f
   unfold sD at f
   simp only at f
   have i1 := hb.q0
   unfold dxR
   simp only
   push_cast at f ⊢
   grind)
  have k2 := ownq_le h ((4194304 - b.p1) * b.w0 / 64 + b.q0)
  have e : b.oth P .mr = P.base + ownq P ((4194304 - b.p1) * b.w0 / 64 + b.q0) := by unfold Bq.oth; simp only [nadd, nmul, ndiv, nsub]
  rw [e]
  refine ⟨?_, by omega⟩
  unfold othR
  push_cast at k ⊢
  grind
 ·have k := own_le h (d := b.q0 - b.p1) (dx := dxR .rr p q W) (by
   have hpq := he.rr rfl
   have i1 := hb.q0
   have i2 := hb.p1
   unfold dxR
   simp only
   rcases Nat.le_total b.p1 b.q0 with c | c
   ·obtain ⟨d, hd⟩ : ∃ d, b.q0 = b.p1 + d := ⟨b.q0 - b.p1, by omega⟩
    have e : b.q0 - b.p1 = d := by omega
    have e3 : (b.q0 : Rat) = b.p1 + d := by exact_mod_cast hd
    rw [e]
    grind
   ·have e : b.q0 - b.p1 = 0 := by omega
    rw [e]
    push_cast
    grind)
  have k2 := ownq_le h (b.q0 - b.p1)
  have own0 : 0 <= ownRq P (dxR .rr p q W) := by
   unfold ownRq
   split
   ·exact natNn _
   ·split
    ·exact natNn _
    ·split
     ·exact natNn _
     ·exact natNn _
  have e : b.oth P .rr = bif Nat.ble 131072 b.p0 then P.base else P.base + ownq P (b.q0 - b.p1) := by unfold Bq.oth; simp only [nadd, nsub]
  rw [e]
  unfold othR
  simp only
  cases c : Nat.ble 131072 b.p0
  ·rw [cond_false]
   refine ⟨?_, by omega⟩
   push_cast
   split <;> grind
  ·rw [cond_true]
   rw [Nat.ble_eq] at c
   have c2 := natLe c
   push_cast at c2
   have i := hb.p0
   rw [if_pos (by grind)]
   exact ⟨Rat.le_refl, by omega⟩
structure Cross (zp : Zp) (p q W t s : Rat) : Prop where
 tt : hasT zp = true -> 0 < p + tX zp q W /\ t * (p + tX zp q W) = p
 ss : hasS zp = true -> 0 < sD zp p W + q /\ s * (sD zp p W + q) = sD zp p W
def outD (P : Par) (zp : Zp) (p q : Rat) : Rat :=
 match zp with
 | .ll => P.k1 * (p - q)
 | .lm => P.k1 * p
 | .lr => P.k1 * (p + q)
 | .mm => 0
 | .mr => P.k1 * q
 | .rr => P.k1 * (q - p)
theorem out_cast (P : Par) (zp : Zp) (p q : Nat) : (outL P zp p q : Rat) - (outR P zp p q : Rat) = outD P zp p q := by
 cases zp <;> unfold outL outR outD <;> simp only [nmul, nadd] <;> push_cast <;> grind
theorem four_of {a r c00 c01 c10 c11 e00 e01 e10 e11 Ua Ub Va Vb : Nat} (h : four a r c00 c01 c10 c11 e00 e01 e10 e11 Ua Ub Va Vb = true) :
  Ua + Va + (a + c00) <= r + e00 /\ Ua + Vb + (a + c01) <= r + e01 /\ Ub + Va + (a + c10) <= r + e10 /\ Ub + Vb + (a + c11) <= r + e11 := by
 unfold four at h
 simp only [Bool.and_eq_true, Nat.ble_eq, nadd] at h
 obtain ⟨⟨⟨h1, h2⟩, h3⟩, h4⟩ := h
 exact ⟨h1, h2, h3, h4⟩
def leafF (P : Par) (zp : Zp) (u v : Rat -> Rat -> Rat) (mu : Rat) (sd : Bool) (Ta Tb Sa Sb t s K p q y z : Rat) : Rat :=
 u p y + v q z + mu * (P.H + (if sd then z - y else y - z)) + (Ta + Tb * (y + (z - y) * t)) + (Sa + Sb * (y + (z - y) * s)) + outD P zp p q - K
theorem leafF_le {P : Par} {zp : Zp} {u v : Rat -> Rat -> Rat} {mu : Rat} {sd : Bool} {Ta Tb Sa Sb t s K : Rat} (hu : Bil u) (hv : Bil v) {b : Bq}
  (h : ∀ p, p = (b.p0 : Rat) ∨ p = b.p1 -> ∀ q, q = (b.q0 : Rat) ∨ q = b.q1 -> ∀ y, y = (b.y0 : Rat) ∨ y = b.y1 -> ∀ z, z = (b.z0 : Rat) ∨ z = b.z1 -> leafF P zp u v mu sd Ta Tb Sa Sb t s K p q y z <= 0)
  {p q y z W : Rat} (hb : Inb b p q y z W) : leafF P zp u v mu sd Ta Tb Sa Sb t s K p q y z <= 0 := by
 obtain ⟨a, b', c, d, e⟩ := hu
 obtain ⟨a2, b2, c2, d2, e2⟩ := hv
 have hout : ∃ x1 x2 : Rat, ∀ p q, outD P zp p q = x1 * p + x2 * q := by
  cases zp
  ·exact ⟨P.k1, -P.k1, fun p q => by unfold outD; grind⟩
  ·exact ⟨P.k1, 0, fun p q => by unfold outD; grind⟩
  ·exact ⟨P.k1, P.k1, fun p q => by unfold outD; grind⟩
  ·exact ⟨0, 0, fun p q => by unfold outD; grind⟩
  ·exact ⟨0, P.k1, fun p q => by unfold outD; grind⟩
  ·exact ⟨-P.k1, P.k1, fun p q => by unfold outD; grind⟩
 obtain ⟨x1, x2, eo⟩ := hout
 have hsd : ∃ k1 : Rat, ∀ y z : Rat, (if sd then z - y else y - z) = k1 * (z - y) := by
  cases sd
  ·exact ⟨-1, fun y z => by simp only [Bool.false_eq_true, if_false]; grind⟩
  ·exact ⟨1, fun y z => by simp only [if_true]; grind⟩
 obtain ⟨kk, ek⟩ := hsd
 refine corner4 (f := fun p q y z => leafF P zp u v mu sd Ta Tb Sa Sb t s K p q y z) ?_ ?_ ?_ ?_ h hb.p0 hb.p1 hb.q0 hb.q1 hb.y0 hb.y1 hb.z0 hb.z1
 ·intro q y z
  exact ⟨leafF P zp u v mu sd Ta Tb Sa Sb t s K 0 q y z, b' + d * y + x1, fun x => by simp only [leafF, e, eo]; grind⟩
 ·intro p y z
  exact ⟨leafF P zp u v mu sd Ta Tb Sa Sb t s K p 0 y z, b2 + d2 * z + x2, fun x => by simp only [leafF, e2, eo]; grind⟩
 ·intro p q z
  exact ⟨leafF P zp u v mu sd Ta Tb Sa Sb t s K p q 0 z, c + d * p - mu * kk + Tb * (1 - t) + Sb * (1 - s), fun x => by simp only [leafF, e, ek]; grind⟩
 ·intro p q y
  exact ⟨leafF P zp u v mu sd Ta Tb Sa Sb t s K p q y 0, c2 + d2 * q + mu * kk + Tb * t + Sb * s, fun x => by simp only [leafF, e2, ek]; grind⟩
theorem side_corn {P : Par} {zp : Zp} {pos m0 m1 sd : Bool} {mu tl th sl sh y z : Nat} {t s Ta Tb Sa Sb : Rat}
  (ht : hasT zp = true -> (tl : Rat) <= 65536 * t /\ 65536 * t <= th /\ th <= 65536 /\ tl <= 65536) (hs : hasS zp = true -> (sl : Rat) <= 65536 * s /\ 65536 * s <= sh /\ sh <= 65536 /\ sl <= 65536)
  (hT : if hasT zp then (Ta = (tA P pos m0).1 /\ Tb = 0) ∨ (Ta = (tA P pos m0).2.1 /\ Tb = (tA P pos m0).2.2) else Ta = 0 /\ Tb = 0)
  (hS : if hasS zp then (Sa = (sA P pos m1).1 /\ Sb = 0) ∨ (Sa = (sA P pos m1).2.1 /\ Sb = (sA P pos m1).2.2) else Sa = 0 /\ Sb = 0) :
  (mu : Rat) * (P.H + (if sd then (z : Rat) - y else (y : Rat) - z)) + (Ta + Tb * ((y : Rat) + ((z : Rat) - y) * t)) + (Sa + Sb * ((y : Rat) + ((z : Rat) - y) * s)) <= (sideL P zp pos m0 m1 sd mu tl th sl sh y z : Rat) - (sideR P zp pos sd mu y z : Rat) := by
 have e : sideL P zp pos m0 m1 sd mu tl th sl sh y z = muL mu P.H sd y z + ((bif hasT zp then tL P pos m0 tl th y z else 0) + (bif hasS zp then sL P pos m1 sl sh y z else 0)) := by unfold sideL; simp only [nadd]
 have e2 : sideR P zp pos sd mu y z = muR mu sd y z + (bif pos then (bif hasS zp then oneR P else 0) else (bif hasT zp then oneq P else 0)) := by unfold sideR; simp only [nadd]
 have em : (muL mu P.H sd y z : Rat) - (muR mu sd y z : Rat) = (mu : Rat) * (P.H + (if sd then (z : Rat) - y else (y : Rat) - z)) := by
  unfold muL muR
  simp only [nmul, nadd]
  cases sd
  ·simp only [cond_false, Bool.false_eq_true, if_false]; push_cast; grind
  ·simp only [cond_true, if_true]; push_cast; grind
 have o := one_rat P
 have o2 := oneR_rat P
 rw [e, e2, <- em]
 push_cast
 have kT : (Ta + Tb * ((y : Rat) + ((z : Rat) - y) * t)) <= ((bif hasT zp then tL P pos m0 tl th y z else 0 : Nat) : Rat) - (if pos then (0 : Rat) else ((bif hasT zp then oneq P else 0 : Nat) : Rat)) := by
  cases hz : hasT zp
  ·rw [hz] at hT
   simp only [Bool.false_eq_true, if_false] at hT
   rw [hT.1, hT.2, cond_false, cond_false]
   push_cast
   split <;> grind
  ·obtain ⟨a1, a2, a3, a4⟩ := ht hz
   obtain ⟨b1, b2⟩ := tA_corn P pos m0 (y := y) (z := z) a1 a2 a3 a4
   rw [hz, if_pos rfl] at hT
   rw [cond_true, cond_true, o]
   rcases hT with ⟨c1, c2⟩ | ⟨c1, c2⟩
   ·rw [c1, c2]; grind
   ·rw [c1, c2]; exact b2
 have kS : (Sa + Sb * ((y : Rat) + ((z : Rat) - y) * s)) <= ((bif hasS zp then sL P pos m1 sl sh y z else 0 : Nat) : Rat) - (if pos then ((bif hasS zp then oneR P else 0 : Nat) : Rat) else (0 : Rat)) := by
  cases hz : hasS zp
  ·rw [hz] at hS
   simp only [Bool.false_eq_true, if_false] at hS
   rw [hS.1, hS.2, cond_false, cond_false]
   push_cast
   split <;> grind
  ·obtain ⟨a1, a2, a3, a4⟩ := hs hz
   obtain ⟨b1, b2⟩ := sA_corn P pos m1 (y := y) (z := z) a1 a2 a3 a4
   rw [hz, if_pos rfl] at hS
   rw [cond_true, cond_true, o2]
   rcases hS with ⟨c1, c2⟩ | ⟨c1, c2⟩
   ·rw [c1, c2]; grind
   ·rw [c1, c2]; exact b2
 cases pos
 ·rw [cond_false]
  simp only [Bool.false_eq_true, if_false] at kT kS
  grind
 ·rw [cond_true]
  simp only [if_true] at kT kS
  grind
def bring (P : Par) (zp : Zp) (pos : Bool) (u v : Rat -> Rat -> Rat) (t s p q y z : Rat) : Rat :=
 u p y + v q z + (if hasT zp then tR P pos (y + (z - y) * t) else 0) + (if hasS zp then sR P pos (y + (z - y) * s) else 0) + outD P zp p q
theorem leafM_sound {P : Par} {zp : Zp} {pos m0 m1 sd : Bool} {mu tl th sl sh K : Nat} {b : Bq} {u v : Rat -> Rat -> Rat} {t s : Rat} (hu : Bil u) (hv : Bil v) (hh : Holds b u v)
  (h : leafM P zp pos m0 m1 sd mu tl th sl sh b K (outL P zp b.p0 b.q0) (outL P zp b.p0 b.q1) (outL P zp b.p1 b.q0) (outL P zp b.p1 b.q1) = true)
  (ht : hasT zp = true -> (tl : Rat) <= 65536 * t /\ 65536 * t <= th /\ th <= 65536 /\ tl <= 65536) (hs : hasS zp = true -> (sl : Rat) <= 65536 * s /\ 65536 * s <= sh /\ sh <= 65536 /\ sl <= 65536)
  {p q y z W : Rat} (hb : Inb b p q y z W) (h1 : z - y <= P.H) (h2 : y - z <= P.H) : bring P zp pos u v t s p q y z <= K := by
 unfold leafM at h
 rw [Bool.and_eq_true, Bool.and_eq_true, Bool.and_eq_true] at h
 obtain ⟨⟨⟨f00, f01⟩, f10⟩, f11⟩ := h
 simp only [nadd] at f00 f01 f10 f11
 have g00 := four_of f00
 have g01 := four_of f01
 have g10 := four_of f10
 have g11 := four_of f11
 have key : ∀ Ta Tb Sa Sb : Rat, (if hasT zp then (Ta = (tA P pos m0).1 /\ Tb = 0) ∨ (Ta = (tA P pos m0).2.1 /\ Tb = (tA P pos m0).2.2) else Ta = 0 /\ Tb = 0) ->
   (if hasS zp then (Sa = (sA P pos m1).1 /\ Sb = 0) ∨ (Sa = (sA P pos m1).2.1 /\ Sb = (sA P pos m1).2.2) else Sa = 0 /\ Sb = 0) -> leafF P zp u v mu sd Ta Tb Sa Sb t s K p q y z <= 0 := by
  intro Ta Tb Sa Sb hT hS
  have s00 := side_corn (P := P) (zp := zp) (pos := pos) (m0 := m0) (m1 := m1) (sd := sd) (mu := mu) (y := b.y0) (z := b.z0) ht hs hT hS
  have s01 := side_corn (P := P) (zp := zp) (pos := pos) (m0 := m0) (m1 := m1) (sd := sd) (mu := mu) (y := b.y0) (z := b.z1) ht hs hT hS
  have s10 := side_corn (P := P) (zp := zp) (pos := pos) (m0 := m0) (m1 := m1) (sd := sd) (mu := mu) (y := b.y1) (z := b.z0) ht hs hT hS
  have s11 := side_corn (P := P) (zp := zp) (pos := pos) (m0 := m0) (m1 := m1) (sd := sd) (mu := mu) (y := b.y1) (z := b.z1) ht hs hT hS
  have one : ∀ (pc qc yc zc U V : Nat), u pc yc <= U -> v qc zc <= V ->
    (mu : Rat) * (P.H + (if sd then (zc : Rat) - yc else (yc : Rat) - zc)) + (Ta + Tb * ((yc : Rat) + ((zc : Rat) - yc) * t)) + (Sa + Sb * ((yc : Rat) + ((zc : Rat) - yc) * s)) <= (sideL P zp pos m0 m1 sd mu tl th sl sh yc zc : Rat) - (sideR P zp pos sd mu yc zc : Rat) ->
    U + V + (sideL P zp pos m0 m1 sd mu tl th sl sh yc zc + outL P zp pc qc) <= sideR P zp pos sd mu yc zc + (K + outR P zp pc qc) -> leafF P zp u v mu sd Ta Tb Sa Sb t s K pc qc yc zc <= 0 := by
   intro pc qc yc zc U V e1 e2 e3 e4
   have e4 := natLe e4
   have eo := out_cast P zp pc qc
   unfold leafF
   push_cast at e4
   grind
  refine leafF_le hu hv ?_ hb
  rintro _ (rfl | rfl) _ (rfl | rfl) _ (rfl | rfl) _ (rfl | rfl)
  ·exact one _ _ _ _ _ _ hh.u00 hh.v00 s00 g00.1
  ·exact one _ _ _ _ _ _ hh.u00 hh.v01 s01 g01.1
  ·exact one _ _ _ _ _ _ hh.u01 hh.v00 s10 g10.1
  ·exact one _ _ _ _ _ _ hh.u01 hh.v01 s11 g11.1
  ·exact one _ _ _ _ _ _ hh.u00 hh.v10 s00 g00.2.1
  ·exact one _ _ _ _ _ _ hh.u00 hh.v11 s01 g01.2.1
  ·exact one _ _ _ _ _ _ hh.u01 hh.v10 s10 g10.2.1
  ·exact one _ _ _ _ _ _ hh.u01 hh.v11 s11 g11.2.1
  ·exact one _ _ _ _ _ _ hh.u10 hh.v00 s00 g00.2.2.1
  ·exact one _ _ _ _ _ _ hh.u10 hh.v01 s01 g01.2.2.1
  ·exact one _ _ _ _ _ _ hh.u11 hh.v00 s10 g10.2.2.1
  ·exact one _ _ _ _ _ _ hh.u11 hh.v01 s11 g11.2.2.1
  ·exact one _ _ _ _ _ _ hh.u10 hh.v10 s00 g00.2.2.2
  ·exact one _ _ _ _ _ _ hh.u10 hh.v11 s01 g01.2.2.2
  ·exact one _ _ _ _ _ _ hh.u11 hh.v10 s10 g10.2.2.2
  ·exact one _ _ _ _ _ _ hh.u11 hh.v11 s11 g11.2.2.2
 have hm : (0 : Rat) <= mu * (P.H + (if sd then z - y else y - z)) := Rat.mul_nonneg (natNn _) (by split <;> grind)
 obtain ⟨Ta, Tb, c1, c2⟩ : ∃ Ta Tb : Rat, (if hasT zp then (Ta = (tA P pos m0).1 /\ Tb = 0) ∨ (Ta = (tA P pos m0).2.1 /\ Tb = (tA P pos m0).2.2) else Ta = 0 /\ Tb = 0) /\ (if hasT zp then tR P pos (y + (z - y) * t) else 0) <= Ta + Tb * (y + (z - y) * t) := by
  cases hz : hasT zp
  ·exact ⟨0, 0, by simp, by simp only [Bool.false_eq_true, if_false]; grind⟩
  ·rcases tA_real P pos m0 (y + (z - y) * t) with c | c
   ·exact ⟨(tA P pos m0).1, 0, by simp, by rw [if_pos rfl]; grind⟩
   ·exact ⟨(tA P pos m0).2.1, (tA P pos m0).2.2, by simp, by rw [if_pos rfl]; exact c⟩
 obtain ⟨Sa, Sb, d1, d2⟩ : ∃ Sa Sb : Rat, (if hasS zp then (Sa = (sA P pos m1).1 /\ Sb = 0) ∨ (Sa = (sA P pos m1).2.1 /\ Sb = (sA P pos m1).2.2) else Sa = 0 /\ Sb = 0) /\ (if hasS zp then sR P pos (y + (z - y) * s) else 0) <= Sa + Sb * (y + (z - y) * s) := by
  cases hz : hasS zp
  ·exact ⟨0, 0, by simp, by simp only [Bool.false_eq_true, if_false]; grind⟩
  ·rcases sA_real P pos m1 (y + (z - y) * s) with c | c
   ·exact ⟨(sA P pos m1).1, 0, by simp, by rw [if_pos rfl]; grind⟩
   ·exact ⟨(sA P pos m1).2.1, (sA P pos m1).2.2, by simp, by rw [if_pos rfl]; exact c⟩
 have r := key Ta Tb Sa Sb c1 d1
 unfold leafF at r
 unfold bring
 grind
theorem leafQ_sound {P : Par} (hP : ParOk P) {zp : Zp} {pos : Bool} {b : Bq} {d : Nat} (h : leafQ P zp pos b d = true) {u v : Rat -> Rat -> Rat} (hu : Bil u) (hv : Bil v) (hh : Holds b u v) {p q y z W t s : Rat}
  (hb : Inb b p q y z W) (he : Ends P zp p q y z W) (hc : Cross zp p q W t s) : bring P zp pos u v t s p q y z <= offV + (P.D - othR P zp p q W) * 4294967296 := by
 unfold leafQ at h
 simp only [nmul, nadd, nsub, ndiv] at h
 have r := leafM_sound (t := t) (s := s) hu hv hh h (fun hz => by
  obtain ⟨c1, c2⟩ := hc.tt hz
  obtain ⟨x1, x2⟩ := x_in hb zp
  obtain ⟨r1, r2⟩ := rng_q hb.p0 hb.p1 x1 x2 c1 c2
  exact ⟨r1, r2, (hiq_spec _ _).1, (loq_spec _ _).2⟩) (fun hz => by
  obtain ⟨c1, c2⟩ := hc.ss hz
  obtain ⟨x1, x2⟩ := d_in hb zp he.mr
  obtain ⟨r1, r2⟩ := rng_q x1 x2 hb.q0 hb.q1 c1 c2
  exact ⟨r1, r2, (hiq_spec _ _).1, (loq_spec _ _).2⟩) hb he.h1 he.h2
 obtain ⟨o1, o2⟩ := oth_le hP hb zp he
 have e : ((P.D - b.oth P zp : Nat) : Rat) = (P.D : Rat) - (b.oth P zp : Nat) := by
  obtain ⟨k, hk⟩ : ∃ k, P.D = b.oth P zp + k := ⟨P.D - b.oth P zp, by omega⟩
  have e1 : P.D - b.oth P zp = k := by omega
  have e2 : (P.D : Rat) = (b.oth P zp : Nat) + k := by exact_mod_cast hk
  rw [e1, e2]
  grind
 rw [Rat.natCast_add, Rat.natCast_mul, e] at r
 have e3 : ((4294967296 : Nat) : Rat) = 4294967296 := rfl
 rw [e3] at r
 grind
theorem chkQ_sound {P : Par} (hP : ParOk P) {zp : Zp} {pos : Bool} {u v : Rat -> Rat -> Rat} (hu : Bil u) (hv : Bil v) {p q y z W t s : Rat} (he : Ends P zp p q y z W) (hc : Cross zp p q W t s) :
  ∀ (n : Nat) (b : Bq) (c r : Nat), chkQ P zp pos n b c = some r -> Holds b u v -> Inb b p q y z W -> bring P zp pos u v t s p q y z <= offV + (P.D - othR P zp p q W) * 4294967296
 | 0, b, c, r, h, _, _ => by simp [chkQ] at h
 | n + 1, b, c, r, h, hh, hb => by
  rw [chkQ] at h
  cases h1 : Nat.blt (Nat.mod c 16) 4
  ·rw [h1, cond_false] at h
   cases h0 : Nat.blt (Nat.mod c 16) 9
   ·rw [h0, cond_false] at h
    cases h2 : (b.dead P zp || leafQ P zp pos b (Nat.mod (Nat.div c 16) 256))
    ·rw [h2, cond_false] at h
     simp at h
    ·rcases (Bool.or_eq_true _ _).mp h2 with h3 | h3
     ·exact (Bq.dead_no h3 hb he).elim
     ·exact leafQ_sound hP h3 hu hv hh hb he hc
   ·rw [h0, cond_true] at h
    cases h2 : b.even (Nat.sub (Nat.mod c 16) 4)
    ·rw [h2, cond_false] at h
     simp at h
    ·rw [h2, cond_true] at h
     cases h3 : chkQ P zp pos n (b.lo (Nat.sub (Nat.mod c 16) 4)) (Nat.div c 16) with
     | none => rw [h3] at h; simp at h
     | some r1 =>
      rw [h3] at h
      simp only at h
      rcases hb.cut (Nat.sub (Nat.mod c 16) 4) with k | k
      ·exact chkQ_sound hP hu hv he hc n _ _ _ h3 (hh.lo hu hv _ h2) k
      ·exact chkQ_sound hP hu hv he hc n _ _ _ h (hh.hi hu hv _ h2) k
  ·rw [h1, cond_true] at h
   cases h2 : (b.dead P zp || leafQ P zp pos b (Nat.mod c 16))
   ·rw [h2, cond_false] at h
    simp at h
   ·rcases (Bool.or_eq_true _ _).mp h2 with h3 | h3
    ·exact (Bq.dead_no h3 hb he).elim
    ·exact leafQ_sound hP h3 hu hv hh hb he hc
end Go.Proofs.Ytmgcbodlolnheaa
