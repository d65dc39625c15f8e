/- The masks whose contents grow at one rate, case by case. PRINTED by wip/gen_flat.py. The plain law of floating numbers: each pixel of a mask of closed paths is near its -/
import Derived.Test.YtmgcbodlolnheaaZ23
import Derived.Test.YtmgcbodlolnheaaZ15
namespace Go.Proofs.Ytmgcbodlolnheaa
open Flt Go.RowKit
set_option linter.unusedVariables false
section
variable {W H N : Nat} {ls : List (List Pt)} {gs : List (Pt × Pt)} {Ad : Pt × Pt -> List (Nat × Nat)} (F : Fam W H N ls gs Ad)
include F
set_option maxRecDepth 100000
theorem Fam.q1n2 (h1 : 2 <= N) (h2 : N <= 2) (w1 : W <= 115) : SumOk W H N gs Ad :=
 F.flatM (N0 := 2) (M := 2) (a0 := 245) (O := (491 / 10)) (o1 := (2886 / 5)) (o2 := (1303 / 20)) (o3 := (4903 / 100)) (zm := (1016 / 5)) (ob := (2886 / 5)) (lb := 635) (Wm := 115) (rate := 1 / 2) (c := (1 + (331 / 100000))) (γ := (809 / 100000)) (t1 := 1) (t2 := 5) (t3 := 13) (t4 := 29) (t5 := 48) (e1 := 327) (e2 := 125) (e4 := 0) (K := 473) (Et := 827)
  (by exact_mod_cast h1) (by exact_mod_cast h2) (by exact_mod_cast w1) (by unfold FlatNum; decide +kernel) (by unfold EndNum; decide +kernel) (by unfold TimesOk; decide +kernel) (by unfold KOk; decide +kernel)
  (fun ob pre t h r hr => F.con_q (q := 1) (τ := (331 / 100000)) (ob := (2886 / 5)) (fun e he r => dR_one (by have := F.rows e he; omega) r) ob (by decide +kernel) (by decide +kernel) h hr)
theorem Fam.q2n3 (h1 : 3 <= N) (h2 : N <= 3) (w1 : W <= 24) : SumOk W H N gs Ad :=
 F.flatM (N0 := 3) (M := 3) (a0 := 154) (O := (568 / 5)) (o1 := (7203 / 10)) (o2 := (2271 / 20)) (o3 := (7071 / 100)) (zm := 154) (ob := (7203 / 10)) (lb := 638) (Wm := 24) (rate := 2 / 2) (c := (1 + (413 / 100000))) (γ := (1037 / 100000)) (t1 := 0) (t2 := 2) (t3 := 6) (t4 := 14) (t5 := 30) (e1 := 0) (e2 := 386) (e4 := 164) (K := 916) (Et := 1428)
  (by exact_mod_cast h1) (by exact_mod_cast h2) (by exact_mod_cast w1) (by unfold FlatNum; decide +kernel) (by unfold EndNum; decide +kernel) (by unfold TimesOk; decide +kernel) (by unfold KOk; decide +kernel)
  (fun ob pre t h r hr => F.con_q (q := 2) (τ := (413 / 100000)) (ob := (7203 / 10)) (fun e he r => dR_two r) ob (by decide +kernel) (by decide +kernel) h hr)
theorem Fam.q2n4 (h1 : 4 <= N) (h2 : N <= 4) (w1 : W <= 24) : SumOk W H N gs Ad :=
 F.flatM (N0 := 4) (M := 4) (a0 := 154) (O := (876 / 5)) (o1 := (4317 / 5)) (o2 := (876 / 5)) (o3 := (2376 / 25)) (zm := 154) (ob := (4317 / 5)) (lb := 641) (Wm := 24) (rate := 2 / 2) (c := (1 + (99 / 20000))) (γ := (253 / 20000)) (t1 := 0) (t2 := 2) (t3 := 6) (t4 := 14) (t5 := 30) (e1 := 0) (e2 := 467) (e4 := 245) (K := 916) (Et := 1914)
  (by exact_mod_cast h1) (by exact_mod_cast h2) (by exact_mod_cast w1) (by unfold FlatNum; decide +kernel) (by unfold EndNum; decide +kernel) (by unfold TimesOk; decide +kernel) (by unfold KOk; decide +kernel)
  (fun ob pre t h r hr => F.con_q (q := 2) (τ := (99 / 20000)) (ob := (4317 / 5)) (fun e he r => dR_two r) ob (by decide +kernel) (by decide +kernel) h hr)
theorem Fam.q2n5 (h1 : 5 <= N) (h2 : N <= 11) (w1 : W <= 24) : SumOk W H N gs Ad :=
 F.flatM (N0 := 5) (M := 11) (a0 := 154) (O := (9787 / 10)) (o1 := (18651 / 10)) (o2 := (3911 / 4)) (o3 := (6791 / 20)) (zm := 154) (ob := (18651 / 10)) (lb := 662) (Wm := 24) (rate := 2 / 2) (c := (1 + (267 / 25000))) (γ := (2863 / 100000)) (t1 := 0) (t2 := 2) (t3 := 6) (t4 := 14) (t5 := 30) (e1 := 0) (e2 := 665) (e4 := 444) (K := 916) (Et := 3106)
  (by exact_mod_cast h1) (by exact_mod_cast h2) (by exact_mod_cast w1) (by unfold FlatNum; decide +kernel) (by unfold EndNum; decide +kernel) (by unfold TimesOk; decide +kernel) (by unfold KOk; decide +kernel)
  (fun ob pre t h r hr => F.con_q (q := 2) (τ := (267 / 25000)) (ob := (18651 / 10)) (fun e he r => dR_two r) ob (by decide +kernel) (by decide +kernel) h hr)
theorem Fam.q2n12 (h1 : 12 <= N) (w1 : W <= 24) : SumOk W H N gs Ad :=
 F.flatC (a0 := 154) (Wm := 24) (rate := 2 / 2) (c := (1 + (17 / 20))) (t1 := 0) (t2 := 0) (t3 := 4) (t4 := 12) (t5 := 28) (K := 976) h1 (by exact_mod_cast w1) (by unfold CrudeNum; decide +kernel) (by unfold EndNum; decide +kernel) (by unfold TimesOk; decide +kernel) (by unfold KOk; decide +kernel)
  (fun ob pre t h r hr => F.con_q (q := 2) (τ := (17 / 20)) (ob := 148411) (fun e he r => dR_two r) ob (by decide +kernel) (by decide +kernel) h hr)
theorem Fam.f3n3 (h1 : 3 <= N) (h2 : N <= 3) (w1 : W <= 59) (w0 : 25 <= W) : SumOk W H N gs Ad :=
 F.flatM (N0 := 3) (M := 3) (a0 := 189) (O := (568 / 5)) (o1 := (7203 / 10)) (o2 := (2271 / 20)) (o3 := (7071 / 100)) (zm := 189) (ob := (7203 / 10)) (lb := 638) (Wm := 59) (rate := ((tabF3.P.D : Nat) : Rat) / 4096) (c := (((tabF3.R : Nat) : Rat) / 17592186044416 + (413 / 100000))) (γ := (1037 / 100000)) (t1 := 0) (t2 := 3) (t3 := 8) (t4 := 18) (t5 := 38) (e1 := 0) (e2 := 316) (e4 := 24) (K := 746) (Et := 1068)
  (by exact_mod_cast h1) (by exact_mod_cast h2) (by exact_mod_cast w1) (by unfold FlatNum; decide +kernel) (by unfold EndNum; decide +kernel) (by unfold TimesOk; decide +kernel) (by unfold KOk; decide +kernel)
  (fun ob pre t h r hr => F.con_tab tabF3_ok (τ := (413 / 100000)) (ob := (7203 / 10)) rfl rfl rfl rfl rfl rfl rfl (by show tabF3.w0 + 1 <= W; exact Nat.le_trans (by decide +kernel) w0) (by show W <= tabF3.w1 + 1; exact Nat.le_trans w1 (by decide +kernel)) (by decide +kernel) (by decide +kernel) ob (by decide +kernel) (by decide +kernel) h hr)
theorem Fam.f3n4 (h1 : 4 <= N) (h2 : N <= 4) (w1 : W <= 59) (w0 : 25 <= W) : SumOk W H N gs Ad :=
 F.flatM (N0 := 4) (M := 4) (a0 := 189) (O := (876 / 5)) (o1 := (4317 / 5)) (o2 := (876 / 5)) (o3 := (2376 / 25)) (zm := 189) (ob := (4317 / 5)) (lb := 641) (Wm := 59) (rate := ((tabF3.P.D : Nat) : Rat) / 4096) (c := (((tabF3.R : Nat) : Rat) / 17592186044416 + (99 / 20000))) (γ := (253 / 20000)) (t1 := 0) (t2 := 3) (t3 := 8) (t4 := 18) (t5 := 38) (e1 := 0) (e2 := 397) (e4 := 105) (K := 746) (Et := 1716)
  (by exact_mod_cast h1) (by exact_mod_cast h2) (by exact_mod_cast w1) (by unfold FlatNum; decide +kernel) (by unfold EndNum; decide +kernel) (by unfold TimesOk; decide +kernel) (by unfold KOk; decide +kernel)
  (fun ob pre t h r hr => F.con_tab tabF3_ok (τ := (99 / 20000)) (ob := (4317 / 5)) rfl rfl rfl rfl rfl rfl rfl (by show tabF3.w0 + 1 <= W; exact Nat.le_trans (by decide +kernel) w0) (by show W <= tabF3.w1 + 1; exact Nat.le_trans w1 (by decide +kernel)) (by decide +kernel) (by decide +kernel) ob (by decide +kernel) (by decide +kernel) h hr)
theorem Fam.f3n5 (h1 : 5 <= N) (h2 : N <= 11) (w1 : W <= 59) (w0 : 25 <= W) : SumOk W H N gs Ad :=
 F.flatM (N0 := 5) (M := 11) (a0 := 189) (O := (4889 / 5)) (o1 := (18651 / 10)) (o2 := (3911 / 4)) (o3 := (6791 / 20)) (zm := 189) (ob := (18651 / 10)) (lb := 662) (Wm := 59) (rate := ((tabF3.P.D : Nat) : Rat) / 4096) (c := (((tabF3.R : Nat) : Rat) / 17592186044416 + (267 / 25000))) (γ := (2863 / 100000)) (t1 := 0) (t2 := 3) (t3 := 8) (t4 := 18) (t5 := 38) (e1 := 0) (e2 := 596) (e4 := 305) (K := 746) (Et := 3313)
  (by exact_mod_cast h1) (by exact_mod_cast h2) (by exact_mod_cast w1) (by unfold FlatNum; decide +kernel) (by unfold EndNum; decide +kernel) (by unfold TimesOk; decide +kernel) (by unfold KOk; decide +kernel)
  (fun ob pre t h r hr => F.con_tab tabF3_ok (τ := (267 / 25000)) (ob := (18651 / 10)) rfl rfl rfl rfl rfl rfl rfl (by show tabF3.w0 + 1 <= W; exact Nat.le_trans (by decide +kernel) w0) (by show W <= tabF3.w1 + 1; exact Nat.le_trans w1 (by decide +kernel)) (by decide +kernel) (by decide +kernel) ob (by decide +kernel) (by decide +kernel) h hr)
theorem Fam.f3n12 (h1 : 12 <= N) (w1 : W <= 59) (w0 : 25 <= W) : SumOk W H N gs Ad :=
 F.flatC (a0 := 189) (Wm := 59) (rate := ((tabF3.P.D : Nat) : Rat) / 4096) (c := (((tabF3.R : Nat) : Rat) / 17592186044416 + (17 / 20))) (t1 := 0) (t2 := 0) (t3 := 5) (t4 := 15) (t5 := 35) (K := 836) h1 (by exact_mod_cast w1) (by unfold CrudeNum; decide +kernel) (by unfold EndNum; decide +kernel) (by unfold TimesOk; decide +kernel) (by unfold KOk; decide +kernel)
  (fun ob pre t h r hr => F.con_tab tabF3_ok (τ := (17 / 20)) (ob := 148411) rfl rfl rfl rfl rfl rfl rfl (by show tabF3.w0 + 1 <= W; exact Nat.le_trans (by decide +kernel) w0) (by show W <= tabF3.w1 + 1; exact Nat.le_trans w1 (by decide +kernel)) (by decide +kernel) (by decide +kernel) ob (by decide +kernel) (by decide +kernel) h hr)
theorem Fam.f2n3 (h1 : 3 <= N) (h2 : N <= 3) (w1 : W <= 130) (w0 : 60 <= W) : SumOk W H N gs Ad :=
 F.flatM (N0 := 3) (M := 3) (a0 := 260) (O := (354 / 5)) (o1 := (7203 / 10)) (o2 := (2271 / 20)) (o3 := (7071 / 100)) (zm := (1016 / 5)) (ob := (7203 / 10)) (lb := 638) (Wm := 130) (rate := ((tabF2.P.D : Nat) : Rat) / 4096) (c := (((tabF2.R : Nat) : Rat) / 17592186044416 + (413 / 100000))) (γ := (1037 / 100000)) (t1 := 1) (t2 := 4) (t3 := 10) (t4 := 23) (t5 := 48) (e1 := 433) (e2 := 216) (e4 := 0) (K := 535) (Et := 1081)
  (by exact_mod_cast h1) (by exact_mod_cast h2) (by exact_mod_cast w1) (by unfold FlatNum; decide +kernel) (by unfold EndNum; decide +kernel) (by unfold TimesOk; decide +kernel) (by unfold KOk; decide +kernel)
  (fun ob pre t h r hr => F.con_tab tabF2_ok (τ := (413 / 100000)) (ob := (7203 / 10)) rfl rfl rfl rfl rfl rfl rfl (by show tabF2.w0 + 1 <= W; exact Nat.le_trans (by decide +kernel) w0) (by show W <= tabF2.w1 + 1; exact Nat.le_trans w1 (by decide +kernel)) (by decide +kernel) (by decide +kernel) ob (by decide +kernel) (by decide +kernel) h hr)
theorem Fam.f2n4 (h1 : 4 <= N) (h2 : N <= 4) (w1 : W <= 130) (w0 : 60 <= W) : SumOk W H N gs Ad :=
 F.flatM (N0 := 4) (M := 4) (a0 := 260) (O := (951 / 10)) (o1 := (4317 / 5)) (o2 := (876 / 5)) (o3 := (2376 / 25)) (zm := (1016 / 5)) (ob := (4317 / 5)) (lb := 641) (Wm := 130) (rate := ((tabF2.P.D : Nat) : Rat) / 4096) (c := (((tabF2.R : Nat) : Rat) / 17592186044416 + (99 / 20000))) (γ := (253 / 20000)) (t1 := 1) (t2 := 4) (t3 := 10) (t4 := 23) (t5 := 48) (e1 := 552) (e2 := 335) (e4 := 0) (K := 535) (Et := 1557)
  (by exact_mod_cast h1) (by exact_mod_cast h2) (by exact_mod_cast w1) (by unfold FlatNum; decide +kernel) (by unfold EndNum; decide +kernel) (by unfold TimesOk; decide +kernel) (by unfold KOk; decide +kernel)
  (fun ob pre t h r hr => F.con_tab tabF2_ok (τ := (99 / 20000)) (ob := (4317 / 5)) rfl rfl rfl rfl rfl rfl rfl (by show tabF2.w0 + 1 <= W; exact Nat.le_trans (by decide +kernel) w0) (by show W <= tabF2.w1 + 1; exact Nat.le_trans w1 (by decide +kernel)) (by decide +kernel) (by decide +kernel) ob (by decide +kernel) (by decide +kernel) h hr)
theorem Fam.f2n5 (h1 : 5 <= N) (h2 : N <= 11) (w1 : W <= 130) (w0 : 60 <= W) : SumOk W H N gs Ad :=
 F.flatM (N0 := 5) (M := 11) (a0 := 260) (O := (2617 / 5)) (o1 := (18651 / 10)) (o2 := (3911 / 4)) (o3 := (6791 / 20)) (zm := (1016 / 5)) (ob := (18651 / 10)) (lb := 662) (Wm := 130) (rate := ((tabF2.P.D : Nat) : Rat) / 4096) (c := (((tabF2.R : Nat) : Rat) / 17592186044416 + (267 / 25000))) (γ := (2863 / 100000)) (t1 := 1) (t2 := 4) (t3 := 10) (t4 := 23) (t5 := 48) (e1 := 1125) (e2 := 909) (e4 := 475) (K := 535) (Et := 6702)
  (by exact_mod_cast h1) (by exact_mod_cast h2) (by exact_mod_cast w1) (by unfold FlatNum; decide +kernel) (by unfold EndNum; decide +kernel) (by unfold TimesOk; decide +kernel) (by unfold KOk; decide +kernel)
  (fun ob pre t h r hr => F.con_tab tabF2_ok (τ := (267 / 25000)) (ob := (18651 / 10)) rfl rfl rfl rfl rfl rfl rfl (by show tabF2.w0 + 1 <= W; exact Nat.le_trans (by decide +kernel) w0) (by show W <= tabF2.w1 + 1; exact Nat.le_trans w1 (by decide +kernel)) (by decide +kernel) (by decide +kernel) ob (by decide +kernel) (by decide +kernel) h hr)
theorem Fam.f2n12 (h1 : 12 <= N) (w1 : W <= 130) (w0 : 60 <= W) : SumOk W H N gs Ad :=
 F.flatC (a0 := 260) (Wm := 130) (rate := ((tabF2.P.D : Nat) : Rat) / 4096) (c := (((tabF2.R : Nat) : Rat) / 17592186044416 + (17 / 20))) (t1 := 0) (t2 := 0) (t3 := 7) (t4 := 20) (t5 := 45) (K := 628) h1 (by exact_mod_cast w1) (by unfold CrudeNum; decide +kernel) (by unfold EndNum; decide +kernel) (by unfold TimesOk; decide +kernel) (by unfold KOk; decide +kernel)
  (fun ob pre t h r hr => F.con_tab tabF2_ok (τ := (17 / 20)) (ob := 148411) rfl rfl rfl rfl rfl rfl rfl (by show tabF2.w0 + 1 <= W; exact Nat.le_trans (by decide +kernel) w0) (by show W <= tabF2.w1 + 1; exact Nat.le_trans w1 (by decide +kernel)) (by decide +kernel) (by decide +kernel) ob (by decide +kernel) (by decide +kernel) h hr)
theorem Fam.f1n3 (h1 : 3 <= N) (h2 : N <= 3) (w1 : W <= 155) (w0 : 131 <= W) : SumOk W H N gs Ad :=
 F.flatM (N0 := 3) (M := 3) (a0 := 285) (O := (354 / 5)) (o1 := (7203 / 10)) (o2 := (2271 / 20)) (o3 := (7071 / 100)) (zm := (1016 / 5)) (ob := (7203 / 10)) (lb := 638) (Wm := 155) (rate := ((tabF1.P.D : Nat) : Rat) / 4096) (c := (((tabF1.R : Nat) : Rat) / 17592186044416 + (413 / 100000))) (γ := (1037 / 100000)) (t1 := 1) (t2 := 5) (t3 := 12) (t4 := 27) (t5 := 48) (e1 := 408) (e2 := 166) (e4 := 0) (K := 493) (Et := 1072)
  (by exact_mod_cast h1) (by exact_mod_cast h2) (by exact_mod_cast w1) (by unfold FlatNum; decide +kernel) (by unfold EndNum; decide +kernel) (by unfold TimesOk; decide +kernel) (by unfold KOk; decide +kernel)
  (fun ob pre t h r hr => F.con_tab tabF1_ok (τ := (413 / 100000)) (ob := (7203 / 10)) rfl rfl rfl rfl rfl rfl rfl (by show tabF1.w0 + 1 <= W; exact Nat.le_trans (by decide +kernel) w0) (by show W <= tabF1.w1 + 1; exact Nat.le_trans w1 (by decide +kernel)) (by decide +kernel) (by decide +kernel) ob (by decide +kernel) (by decide +kernel) h hr)
theorem Fam.f1n4 (h1 : 4 <= N) (h2 : N <= 4) (w1 : W <= 200) (w0 : 131 <= W) : SumOk W H N gs Ad :=
 F.flatM (N0 := 4) (M := 4) (a0 := 330) (O := (951 / 10)) (o1 := (4317 / 5)) (o2 := (876 / 5)) (o3 := (2376 / 25)) (zm := (1016 / 5)) (ob := (4317 / 5)) (lb := 641) (Wm := 200) (rate := ((tabF1.P.D : Nat) : Rat) / 4096) (c := (((tabF1.R : Nat) : Rat) / 17592186044416 + (99 / 20000))) (γ := (253 / 20000)) (t1 := 1) (t2 := 5) (t3 := 12) (t4 := 27) (t5 := 48) (e1 := 482) (e2 := 195) (e4 := 0) (K := 493) (Et := 1262)
  (by exact_mod_cast h1) (by exact_mod_cast h2) (by exact_mod_cast w1) (by unfold FlatNum; decide +kernel) (by unfold EndNum; decide +kernel) (by unfold TimesOk; decide +kernel) (by unfold KOk; decide +kernel)
  (fun ob pre t h r hr => F.con_tab tabF1_ok (τ := (99 / 20000)) (ob := (4317 / 5)) rfl rfl rfl rfl rfl rfl rfl (by show tabF1.w0 + 1 <= W; exact Nat.le_trans (by decide +kernel) w0) (by show W <= tabF1.w1 + 1; exact Nat.le_trans w1 (by decide +kernel)) (by decide +kernel) (by decide +kernel) ob (by decide +kernel) (by decide +kernel) h hr)
theorem Fam.f1n5 (h1 : 5 <= N) (h2 : N <= 11) (w1 : W <= 200) (w0 : 131 <= W) : SumOk W H N gs Ad :=
 F.flatM (N0 := 5) (M := 11) (a0 := 330) (O := (1698 / 5)) (o1 := (18651 / 10)) (o2 := (3911 / 4)) (o3 := (6791 / 20)) (zm := (1016 / 5)) (ob := (18651 / 10)) (lb := 662) (Wm := 200) (rate := ((tabF1.P.D : Nat) : Rat) / 4096) (c := (((tabF1.R : Nat) : Rat) / 17592186044416 + (267 / 25000))) (γ := (2863 / 100000)) (t1 := 1) (t2 := 5) (t3 := 12) (t4 := 27) (t5 := 48) (e1 := 1239) (e2 := 952) (e4 := 379) (K := 493) (Et := 7700)
  (by exact_mod_cast h1) (by exact_mod_cast h2) (by exact_mod_cast w1) (by unfold FlatNum; decide +kernel) (by unfold EndNum; decide +kernel) (by unfold TimesOk; decide +kernel) (by unfold KOk; decide +kernel)
  (fun ob pre t h r hr => F.con_tab tabF1_ok (τ := (267 / 25000)) (ob := (18651 / 10)) rfl rfl rfl rfl rfl rfl rfl (by show tabF1.w0 + 1 <= W; exact Nat.le_trans (by decide +kernel) w0) (by show W <= tabF1.w1 + 1; exact Nat.le_trans w1 (by decide +kernel)) (by decide +kernel) (by decide +kernel) ob (by decide +kernel) (by decide +kernel) h hr)
theorem Fam.f1n12 (h1 : 12 <= N) (w1 : W <= 200) (w0 : 131 <= W) : SumOk W H N gs Ad :=
 F.flatC (a0 := 330) (Wm := 200) (rate := ((tabF1.P.D : Nat) : Rat) / 4096) (c := (((tabF1.R : Nat) : Rat) / 17592186044416 + (17 / 20))) (t1 := 0) (t2 := 1) (t3 := 9) (t4 := 23) (t5 := 48) (K := 546) h1 (by exact_mod_cast w1) (by unfold CrudeNum; decide +kernel) (by unfold EndNum; decide +kernel) (by unfold TimesOk; decide +kernel) (by unfold KOk; decide +kernel)
  (fun ob pre t h r hr => F.con_tab tabF1_ok (τ := (17 / 20)) (ob := 148411) rfl rfl rfl rfl rfl rfl rfl (by show tabF1.w0 + 1 <= W; exact Nat.le_trans (by decide +kernel) w0) (by show W <= tabF1.w1 + 1; exact Nat.le_trans w1 (by decide +kernel)) (by decide +kernel) (by decide +kernel) ob (by decide +kernel) (by decide +kernel) h hr)
end
theorem Fam.all {W H N : Nat} {ls : List (List Pt)} {gs : List (Pt × Pt)} {Ad : Pt × Pt -> List (Nat × Nat)} (F : Fam W H N ls gs Ad) : SumOk W H N gs Ad := by
 have hW := F.hW2
 have hN := F.N2
 by_cases n2 : N = 2
 ·by_cases w1 : W <= 115
  ·exact F.q1n2 (by omega) (by omega) w1
  ·by_cases w2 : W <= 126
   ·exact F.b2 n2 (by omega) w2
   ·exact F.a2 n2 (by omega) hW
 ·by_cases n3 : N = 3
  ·by_cases w1 : W <= 24
   ·exact F.q2n3 (by omega) (by omega) w1
   ·by_cases w2 : W <= 59
    ·exact F.f3n3 (by omega) (by omega) w2 (by omega)
    ·by_cases w3 : W <= 130
     ·exact F.f2n3 (by omega) (by omega) w3 (by omega)
     ·by_cases w4 : W <= 155
      ·exact F.f1n3 (by omega) (by omega) w4 (by omega)
      ·exact F.a3 n3 (by omega) hW
  ·by_cases n4 : N = 4
   ·by_cases w1 : W <= 24
    ·exact F.q2n4 (by omega) (by omega) w1
    ·by_cases w2 : W <= 59
     ·exact F.f3n4 (by omega) (by omega) w2 (by omega)
     ·by_cases w3 : W <= 130
      ·exact F.f2n4 (by omega) (by omega) w3 (by omega)
      ·exact F.f1n4 (by omega) (by omega) hW (by omega)
   ·by_cases n11 : N <= 11
    ·by_cases w1 : W <= 24
     ·exact F.q2n5 (by omega) n11 w1
     ·by_cases w2 : W <= 59
      ·exact F.f3n5 (by omega) n11 w2 (by omega)
      ·by_cases w3 : W <= 130
       ·exact F.f2n5 (by omega) n11 w3 (by omega)
       ·exact F.f1n5 (by omega) n11 hW (by omega)
    ·by_cases w1 : W <= 24
     ·exact F.q2n12 (by omega) w1
     ·by_cases w2 : W <= 59
      ·exact F.f3n12 (by omega) w2 (by omega)
      ·by_cases w3 : W <= 130
       ·exact F.f2n12 (by omega) w3 (by omega)
       ·exact F.f1n12 (by omega) hW (by omega)
theorem area_level {X Y : Nat} : ∀ (es : List (Pt × Pt)), (∀ e ∈ es, e.1.2 = e.2.2) -> areaR es X Y = 0
 | [], _ => rfl
 | e :: t, h => by
  have hz : ∀ r, dph r e = 0 := fun r => by unfold dph; rw [h e (by simp)]; omega
  have i2 := area_level (X := X) (Y := Y) t fun e he => h e (by simp [he])
  unfold areaR at i2 ⊢
  rw [sumE, i2, areaE, hz, cast_zero]
  grind
theorem acc_zero : ∀ (n p acc : Nat), F32 acc -> V acc = 0 -> F32 (accTo acc (List.replicate n 0) p) /\ V (accTo acc (List.replicate n 0) p) = 0
 | 0, p, acc, h1, h2 => by
  rw [List.replicate_zero, accTo]
  exact ⟨h1, h2⟩
 | n + 1, p, acc, h1, h2 => by
  have z : V acc + V 0 = 0 := by rw [h2, fzero.2]; grind
  have k := (fadd_ok h1 fzero.1 (by rw [z, ab_of_nonneg Rat.le_refl]; exact Rat.le_of_lt (p2_pos 126))).2
  rw [z] at k
  have k1 := k.nonneg Rat.le_refl
  have k2 := k.nonpos Rat.le_refl
  rw [List.replicate_succ]
  cases p with
  | zero =>
   rw [accTo]
   exact ⟨k.fin, by grind⟩
  | succ p =>
   rw [accTo]
   exact acc_zero n p _ k.fin (by grind)
theorem edgesF_flat (W : Nat) (H : Int) : ∀ gs : List (Pt × Pt), edgesF W H gs = gs.flatMap (edgeF W H)
 | [] => rfl
 | e :: t => by rw [edgesF, List.flatMap_cons, edgesF_flat W H t]
theorem pixel_rat2 {z A b n E F : Rat} (hn : n <= 48) (a3 : ab (capR z - capR A) <= n * (1 / 49000000) + 1 / 1000000000) (h : ab (255 * capR A - b) <= E) (hE : E + 1 / 1000 <= F) : ab (255 * capR z - b) + 1 / 1000000000000 <= F := by
 generalize capR z = u at *
 generalize capR A = v at *
 obtain ⟨p1, p2⟩ := ab_iff.1 a3
 obtain ⟨p3, p4⟩ := ab_iff.1 h
 have : ab (255 * u - b) <= F - 1 / 1000000000000 := ab_le (by grind) (by grind)
 grind
theorem pixel_near2 {es : List (Pt × Pt)} {X Y : Nat} {b : Int} {far : Nat} {E F : Rat} (he : ∀ e ∈ es, Edge16 e) (hX : X <= 600) (hY : Y <= 600) (hn : es.length <= 48) (hb : 0 <= b) (hb1 : b <= 255) (hf : F64 far) (hfv : VV far = F)
  (h : ab (255 * capR (areaR es X Y) - b) <= E) (hE : E + 1 / 1000 <= F) : AreaOk es X Y /\ CloseOk b (areaW es X Y) far /\ closeB b (areaW es X Y) far = true := by
 obtain ⟨a1, a2, a3⟩ := area_num he hX hY (by omega)
 have h1 := cap_near a3
 have hn' : (es.length : Rat) <= 48 := by exact_mod_cast hn
 obtain ⟨c1, c2⟩ := near_num hb hb1 a2 hf (by rw [hfv]; exact pixel_rat2 hn' h1 h hE)
 exact ⟨a1, c1, c2⟩
theorem byte_flo2 {A v b n N F : Rat} (h1 : ab (255 * capR v - b) <= 1 + 1 / 50000) (h2 : ab (v - A) <= (65700 + 6579 / 10 * (n * N)) * (1 / 16777216)) (hnN : 0 <= n * N) (hF : ab (F - (2 + N * n / 100)) <= 1 / 100000000000) :
  ab (255 * capR A - b) <= F - 1 / 1000 := by
 have h3 := cap_near h2
 obtain ⟨a1, a2⟩ := ab_iff.1 h1
 obtain ⟨b1, b2⟩ := ab_iff.1 h3
 obtain ⟨c1, c2⟩ := ab_iff.1 hF
 have : N * n = n * N := by grind
 rw [this] at c1 c2
 generalize n * N = z at *
 exact ab_le (by grind) (by grind)
theorem flo_all {W H : Nat} {ps : List (List Pt)} (hW0 : 0 < W) (hW : W <= 200) (hH0 : 0 < H) (hH : H <= 200) (hne : ∀ p ∈ ps, p ≠ []) (hp : ∀ p ∈ ps, ∀ v ∈ p, PtIn W v) (hn : (ps.flatMap edges).length <= 48) :
  NearAll (maskR true W H (ps.flatMap pathOps)) W H (ps.flatMap edges) (driftW (ps.flatMap edges)) := by
 have hf : ∀ p ∈ ps, Far p 16896 := fun p h q hq => by
  obtain ⟨⟨a1, a2⟩, a3⟩ := hp p h q hq
  unfold In264 at a3
  have : (W : Int) <= 200 := by omega
  omega
 intro Y X hY hX
 have h17 := edge17_of hf
 have h16 : ∀ e ∈ ps.flatMap edges, Edge16 e := fun e he => by have := h17 e he; unfold Edge17 at this; unfold Edge16; omega
 obtain ⟨_, f1, f2, _⟩ := drift_num h17 (by omega)
 obtain ⟨r0, r1⟩ := rowsAll_bd h17
 rw [maskR_floS W H hne, edgesF_flat]
 have hmem : ∀ e ∈ ps.flatMap edges, (In264 e.1.1 /\ In264 e.1.2) /\ (In264 e.2.1 /\ In264 e.2.2) := fun e he => by
  have := h17 e he
  unfold Edge17 at this
  unfold In264
  omega
 by_cases hl : ∀ e ∈ ps.flatMap edges, e.1.2 = e.2.2
 ·have l2 := area_level (X := X) (Y := Y) _ hl
  have hpx : Y * W + X < W * H := by
   have h1 : (Y + 1) * W <= H * W := Nat.mul_le_mul_right W hY
   rw [Nat.add_mul, Nat.one_mul, Nat.mul_comm H W] at h1
   omega
  have he0 : (ps.flatMap edges).flatMap (edgeF W H) = [] := by
   rw [List.flatMap_eq_nil_iff]
   intro e he
   obtain ⟨⟨i1, i2⟩, ⟨i3, i4⟩⟩ := hmem e he
   obtain ⟨⟨x0, y0⟩, ⟨x1, y1⟩⟩ := e
   unfold In264 at i1 i2 i3 i4
   exact edgeF_flat W H ⟨by simp only at *; omega, by simp only at *; omega⟩ ⟨by simp only at *; omega, by simp only at *; omega⟩ (hl _ he)
  rw [he0]
  have hb := floBytes_at (List.replicate (W * H) 0) 0 (Y * W + X) (by simpa using hpx)
  obtain ⟨a1, a2⟩ := acc_zero (W * H) (Y * W + X) 0 fzero.1 fzero.2
  obtain ⟨q1, q2, q3⟩ := floByte_near a1
  refine ⟨floByte (accTo 0 (List.replicate (W * H) 0) (Y * W + X)), hb, pixel_near2 h16 (by omega) (by omega) hn q1 q2 f1 rfl (byte_flo2 (n := ((ps.flatMap edges).length : Rat)) (N := (rowsAll (ps.flatMap edges) 0 : Rat)) q3 ?_ ?_ f2) (by grind)⟩
  ·rw [l2, a2, ab_of_nonneg (by decide +kernel)]
   have := Rat.mul_nonneg (a := ((ps.flatMap edges).length : Rat)) (b := (rowsAll (ps.flatMap edges) 0 : Rat)) (natNn _) (by have := castLe r0; rwa [cast_zero] at this)
   grind
  ·exact Rat.mul_nonneg (natNn _) (by have := castLe r0; rwa [cast_zero] at this)
 ·obtain ⟨e, he, hne2⟩ : ∃ e ∈ ps.flatMap edges, e.1.2 ≠ e.2.2 := by
   apply Classical.byContradiction
   intro hc
   exact hl fun e he => Classical.byContradiction fun h => hc ⟨e, he, h⟩
  have hr2 : 2 <= rowsAll (ps.flatMap edges) 0 := by
   have h1 := (rowsE_bd (h17 e he)).2.2 hne2
   have h2 := rowsAll_mem (r := 0) he
   omega
  obtain ⟨N, hN⟩ : ∃ N : Nat, rowsAll (ps.flatMap edges) 0 = N := ⟨(rowsAll (ps.flatMap edges) 0).toNat, by omega⟩
  have F : Fam W H N ps (ps.flatMap edges) (edgeF W H) := ⟨rfl, hW0, hW, hH0, hH, hn, hp, fun e he => by rw [<- hN]; exact rowsAll_mem he, fun e he => by
   obtain ⟨⟨i1, i2⟩, ⟨i3, i4⟩⟩ := hmem e he
   exact (edge_F hW0 hW i1 i2 i3 i4).2, by omega, by omega⟩
  obtain ⟨a, m1, m2, m3⟩ := F.all X Y hX hY
  obtain ⟨q1, q2, q3⟩ := floByte_near m2
  rw [hN] at f2
  push_cast at f2
  have hnN := Rat.mul_nonneg (natNn (ps.flatMap edges).length) (natNn N)
  exact ⟨floByte a, m1, pixel_near2 h16 (by omega) (by omega) hn q1 q2 f1 rfl (byte_flo2 (n := ((ps.flatMap edges).length : Rat)) (N := (N : Rat)) q3 m3 hnN f2) (by grind)⟩
end Go.Proofs.Ytmgcbodlolnheaa
