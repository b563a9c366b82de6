-- squeezed
-- Written by a program of this session (wip/tools/myprint.py) out of Lean's own print of the translation.
import Derived.Test.YtbikiibpjdiaaaaDoorQ0
import Derived.Test.YtbikiibpjdiaaaaDoorQN1
namespace Go.Proofs.YtbikiibpjdiaaaaDoor.QN
open Go.RowKit Go.Proofs.YtbikiibpjdiaaaaDoorW.PrintWords Go.Proofs.YtbikiibpjdiaaaaDoorW.PrintLast Go.Proofs.YtbikiibpjdiaaaaDoorW.PrintMore
open Go.Proofs.YtbikiibpjdiaaaaDoor.Tab Go.Proofs.YtbikiibpjdiaaaaDoor.Q0
set_option linter.unusedVariables false
set_option linter.unusedSimpArgs false

/-! ### gojsonnum_Scan: function 82 -/
mutual
def gojsonnum_Scan.j0 : Nat → List Int → Int → Bool → Option (Int × Int)
 | 0, _, _, _ => none
 | k + 1, x0, x4, x15 => if x15 = true then (gojsonnum_Scan.j1 k x0 (wrap64 (x4 + 1))) else (gojsonnum_Scan.j1 k x0 x4)
def gojsonnum_Scan.j1 : Nat → List Int → Int → Option (Int × Int)
 | 0, _, _ => none
 | k + 1, x0, x4 => if x4 = (x0.length : Int) then (some (x4, 1)) else (if 0 ≤ x4 then (if x4 < (x0.length : Int) then (if (rd x0 x4) = 48 then (gojsonnum_Scan.j2 k x0 (wrap64 (x4 + 1))) else (if 49 ≤ (rd x0 x4) then (if (rd x0 x4) ≤ 57 then ((gojsonnum_ScanDigits.f k x0 (wrap64 (x4 + 1))).bind fun t119 => (gojsonnum_Scan.j2 k x0 t119)) else (some (x4, 1))) else (some (x4, 1)))) else (none)) else (none))
def gojsonnum_Scan.j2 : Nat → List Int → Int → Option (Int × Int)
 | 0, _, _ => none
 | k + 1, x0, x4 => if x4 < (x0.length : Int) then (if 0 ≤ x4 then (gojsonnum_Scan.j3 k x0 x4 ((rd x0 x4) == 46)) else (none)) else (gojsonnum_Scan.j3 k x0 x4 false)
def gojsonnum_Scan.j3 : Nat → List Int → Int → Bool → Option (Int × Int)
 | 0, _, _, _ => none
 | k + 1, x0, x4, x60 => if x60 = true then (if (wrap64 (x4 + 1)) = (x0.length : Int) then (some (wrap64 (x4 + 1), 2)) else (if 0 ≤ (wrap64 (x4 + 1)) then (if (wrap64 (x4 + 1)) < (x0.length : Int) then (if (rd x0 (wrap64 (x4 + 1))) < 48 then (some (wrap64 (x4 + 1), 2)) else (if 57 < (rd x0 (wrap64 (x4 + 1))) then (some (wrap64 (x4 + 1), 2)) else ((gojsonnum_ScanDigits.f k x0 (wrap64 ((wrap64 (x4 + 1)) + 1))).bind fun t123 => (gojsonnum_Scan.j4 k x0 t123)))) else (none)) else (none))) else (gojsonnum_Scan.j4 k x0 x4)
def gojsonnum_Scan.j4 : Nat → List Int → Int → Option (Int × Int)
 | 0, _, _ => none
 | k + 1, x0, x4 => if x4 < (x0.length : Int) then (if 0 ≤ x4 then (if (rd x0 x4) = 101 then (gojsonnum_Scan.j5 k x0 x4 true) else (gojsonnum_Scan.j5 k x0 x4 ((rd x0 x4) == 69))) else (none)) else (gojsonnum_Scan.j5 k x0 x4 false)
def gojsonnum_Scan.j5 : Nat → List Int → Int → Bool → Option (Int × Int)
 | 0, _, _, _ => none
 | k + 1, x0, x4, x103 => if x103 = true then (if (wrap64 (x4 + 1)) < (x0.length : Int) then (if 0 ≤ (wrap64 (x4 + 1)) then (if (rd x0 (wrap64 (x4 + 1))) = 43 then (gojsonnum_Scan.j6 k x0 (wrap64 (x4 + 1)) true) else (gojsonnum_Scan.j6 k x0 (wrap64 (x4 + 1)) ((rd x0 (wrap64 (x4 + 1))) == 45))) else (none)) else (gojsonnum_Scan.j6 k x0 (wrap64 (x4 + 1)) false)) else (some (x4, 0))
def gojsonnum_Scan.j6 : Nat → List Int → Int → Bool → Option (Int × Int)
 | 0, _, _, _ => none
 | k + 1, x0, x4, x123 => if x123 = true then (if (wrap64 (x4 + 1)) = (x0.length : Int) then (some (wrap64 (x4 + 1), 3)) else (if 0 ≤ (wrap64 (x4 + 1)) then (if (wrap64 (x4 + 1)) < (x0.length : Int) then (if (rd x0 (wrap64 (x4 + 1))) < 48 then (some (wrap64 (x4 + 1), 3)) else (if 57 < (rd x0 (wrap64 (x4 + 1))) then (some (wrap64 (x4 + 1), 3)) else ((gojsonnum_ScanDigits.f k x0 (wrap64 ((wrap64 (x4 + 1)) + 1))).bind fun t130 => (some (t130, 0))))) else (none)) else (none))) else (if x4 = (x0.length : Int) then (some (x4, 3)) else (if 0 ≤ x4 then (if x4 < (x0.length : Int) then (if (rd x0 x4) < 48 then (some (x4, 3)) else (if 57 < (rd x0 x4) then (some (x4, 3)) else ((gojsonnum_ScanDigits.f k x0 (wrap64 (x4 + 1))).bind fun t133 => (some (t133, 0))))) else (none)) else (none)))
end
def gojsonnum_Scan.f (k : Nat) (l0 : List Int) : Option (Int × Int) := if 0 < (l0.length : Int) then (gojsonnum_Scan.j0 k l0 0 ((rd l0 0) == 45)) else (gojsonnum_Scan.j0 k l0 0 false)
theorem gojsonnum_Scan.mono_l : ∀ k, (∀ y0 y1 y2, LeO (gojsonnum_Scan.j0 k y0 y1 y2) (gojsonnum_Scan.j0 (k + 1) y0 y1 y2)) ∧ (∀ y0 y1, LeO (gojsonnum_Scan.j1 k y0 y1) (gojsonnum_Scan.j1 (k + 1) y0 y1)) ∧ (∀ y0 y1, LeO (gojsonnum_Scan.j2 k y0 y1) (gojsonnum_Scan.j2 (k + 1) y0 y1)) ∧ (∀ y0 y1 y2, LeO (gojsonnum_Scan.j3 k y0 y1 y2) (gojsonnum_Scan.j3 (k + 1) y0 y1 y2)) ∧ (∀ y0 y1, LeO (gojsonnum_Scan.j4 k y0 y1) (gojsonnum_Scan.j4 (k + 1) y0 y1)) ∧ (∀ y0 y1 y2, LeO (gojsonnum_Scan.j5 k y0 y1 y2) (gojsonnum_Scan.j5 (k + 1) y0 y1 y2)) ∧ (∀ y0 y1 y2, LeO (gojsonnum_Scan.j6 k y0 y1 y2) (gojsonnum_Scan.j6 (k + 1) y0 y1 y2))
 | 0 => ⟨fun _ _ _ r h => by simp [gojsonnum_Scan.j0] at h, fun _ _ r h => by simp [gojsonnum_Scan.j1] at h, fun _ _ r h => by simp [gojsonnum_Scan.j2] at h, fun _ _ _ r h => by simp [gojsonnum_Scan.j3] at h, fun _ _ r h => by simp [gojsonnum_Scan.j4] at h, fun _ _ _ r h => by simp [gojsonnum_Scan.j5] at h, fun _ _ _ r h => by simp [gojsonnum_Scan.j6] at h⟩
 | k + 1 => by
  obtain ⟨ih0, ih1, ih2, ih3, ih4, ih5, ih6⟩ := gojsonnum_Scan.mono_l k
  refine ⟨?_, ?_, ?_, ?_, ?_, ?_, ?_⟩
  ·intro y0 y1 y2
   unfold gojsonnum_Scan.j0
   repeat' first
   | (with_reducible exact ih0 _ _ _)
   | (with_reducible exact ih1 _ _)
   | (with_reducible exact ih2 _ _)
   | (with_reducible exact ih3 _ _ _)
   | (with_reducible exact ih4 _ _)
   | (with_reducible exact ih5 _ _ _)
   | (with_reducible exact ih6 _ _ _)
   | (with_reducible exact gojsonnum_ScanDigits.mono _ _ _)
   | (with_reducible exact LeO.refl _)
   | (with_reducible exact LeO.none _)
   | (with_reducible refine LeO.ite ?_ ?_)
   | (with_reducible refine LeO.bind ?_ (fun _ => ?_))
   | exact ih0 _ _ _
   | exact ih1 _ _
   | exact ih2 _ _
   | exact ih3 _ _ _
   | exact ih4 _ _
   | exact ih5 _ _ _
   | exact ih6 _ _ _
   | exact gojsonnum_ScanDigits.mono _ _ _
   | exact LeO.none _
   | refine LeO.ite ?_ ?_
   | refine LeO.bind ?_ (fun _ => ?_)
  ·intro y0 y1
   unfold gojsonnum_Scan.j1
   repeat' first
   | (with_reducible exact ih0 _ _ _)
   | (with_reducible exact ih1 _ _)
   | (with_reducible exact ih2 _ _)
   | (with_reducible exact ih3 _ _ _)
   | (with_reducible exact ih4 _ _)
   | (with_reducible exact ih5 _ _ _)
   | (with_reducible exact ih6 _ _ _)
   | (with_reducible exact gojsonnum_ScanDigits.mono _ _ _)
   | (with_reducible exact LeO.refl _)
   | (with_reducible exact LeO.none _)
   | (with_reducible refine LeO.ite ?_ ?_)
   | (with_reducible refine LeO.bind ?_ (fun _ => ?_))
   | exact ih0 _ _ _
   | exact ih1 _ _
   | exact ih2 _ _
   | exact ih3 _ _ _
   | exact ih4 _ _
   | exact ih5 _ _ _
   | exact ih6 _ _ _
   | exact gojsonnum_ScanDigits.mono _ _ _
   | exact LeO.none _
   | refine LeO.ite ?_ ?_
   | refine LeO.bind ?_ (fun _ => ?_)
  ·intro y0 y1
   unfold gojsonnum_Scan.j2
   repeat' first
   | (with_reducible exact ih0 _ _ _)
   | (with_reducible exact ih1 _ _)
   | (with_reducible exact ih2 _ _)
   | (with_reducible exact ih3 _ _ _)
   | (with_reducible exact ih4 _ _)
   | (with_reducible exact ih5 _ _ _)
   | (with_reducible exact ih6 _ _ _)
   | (with_reducible exact gojsonnum_ScanDigits.mono _ _ _)
   | (with_reducible exact LeO.refl _)
   | (with_reducible exact LeO.none _)
   | (with_reducible refine LeO.ite ?_ ?_)
   | (with_reducible refine LeO.bind ?_ (fun _ => ?_))
   | exact ih0 _ _ _
   | exact ih1 _ _
   | exact ih2 _ _
   | exact ih3 _ _ _
   | exact ih4 _ _
   | exact ih5 _ _ _
   | exact ih6 _ _ _
   | exact gojsonnum_ScanDigits.mono _ _ _
   | exact LeO.none _
   | refine LeO.ite ?_ ?_
   | refine LeO.bind ?_ (fun _ => ?_)
  ·intro y0 y1 y2
   unfold gojsonnum_Scan.j3
   repeat' first
   | (with_reducible exact ih0 _ _ _)
   | (with_reducible exact ih1 _ _)
   | (with_reducible exact ih2 _ _)
   | (with_reducible exact ih3 _ _ _)
   | (with_reducible exact ih4 _ _)
   | (with_reducible exact ih5 _ _ _)
   | (with_reducible exact ih6 _ _ _)
   | (with_reducible exact gojsonnum_ScanDigits.mono _ _ _)
   | (with_reducible exact LeO.refl _)
   | (with_reducible exact LeO.none _)
   | (with_reducible refine LeO.ite ?_ ?_)
   | (with_reducible refine LeO.bind ?_ (fun _ => ?_))
   | exact ih0 _ _ _
   | exact ih1 _ _
   | exact ih2 _ _
   | exact ih3 _ _ _
   | exact ih4 _ _
   | exact ih5 _ _ _
   | exact ih6 _ _ _
   | exact gojsonnum_ScanDigits.mono _ _ _
   | exact LeO.none _
   | refine LeO.ite ?_ ?_
   | refine LeO.bind ?_ (fun _ => ?_)
  ·intro y0 y1
   unfold gojsonnum_Scan.j4
   repeat' first
   | (with_reducible exact ih0 _ _ _)
   | (with_reducible exact ih1 _ _)
   | (with_reducible exact ih2 _ _)
   | (with_reducible exact ih3 _ _ _)
   | (with_reducible exact ih4 _ _)
   | (with_reducible exact ih5 _ _ _)
   | (with_reducible exact ih6 _ _ _)
   | (with_reducible exact gojsonnum_ScanDigits.mono _ _ _)
   | (with_reducible exact LeO.refl _)
   | (with_reducible exact LeO.none _)
   | (with_reducible refine LeO.ite ?_ ?_)
   | (with_reducible refine LeO.bind ?_ (fun _ => ?_))
   | exact ih0 _ _ _
   | exact ih1 _ _
   | exact ih2 _ _
   | exact ih3 _ _ _
   | exact ih4 _ _
   | exact ih5 _ _ _
   | exact ih6 _ _ _
   | exact gojsonnum_ScanDigits.mono _ _ _
   | exact LeO.none _
   | refine LeO.ite ?_ ?_
   | refine LeO.bind ?_ (fun _ => ?_)
  ·intro y0 y1 y2
   unfold gojsonnum_Scan.j5
   repeat' first
   | (with_reducible exact ih0 _ _ _)
   | (with_reducible exact ih1 _ _)
   | (with_reducible exact ih2 _ _)
   | (with_reducible exact ih3 _ _ _)
   | (with_reducible exact ih4 _ _)
   | (with_reducible exact ih5 _ _ _)
   | (with_reducible exact ih6 _ _ _)
   | (with_reducible exact gojsonnum_ScanDigits.mono _ _ _)
   | (with_reducible exact LeO.refl _)
   | (with_reducible exact LeO.none _)
   | (with_reducible refine LeO.ite ?_ ?_)
   | (with_reducible refine LeO.bind ?_ (fun _ => ?_))
   | exact ih0 _ _ _
   | exact ih1 _ _
   | exact ih2 _ _
   | exact ih3 _ _ _
   | exact ih4 _ _
   | exact ih5 _ _ _
   | exact ih6 _ _ _
   | exact gojsonnum_ScanDigits.mono _ _ _
   | exact LeO.none _
   | refine LeO.ite ?_ ?_
   | refine LeO.bind ?_ (fun _ => ?_)
  ·intro y0 y1 y2
   unfold gojsonnum_Scan.j6
   repeat' first
   | (with_reducible exact ih0 _ _ _)
   | (with_reducible exact ih1 _ _)
   | (with_reducible exact ih2 _ _)
   | (with_reducible exact ih3 _ _ _)
   | (with_reducible exact ih4 _ _)
   | (with_reducible exact ih5 _ _ _)
   | (with_reducible exact ih6 _ _ _)
   | (with_reducible exact gojsonnum_ScanDigits.mono _ _ _)
   | (with_reducible exact LeO.refl _)
   | (with_reducible exact LeO.none _)
   | (with_reducible refine LeO.ite ?_ ?_)
   | (with_reducible refine LeO.bind ?_ (fun _ => ?_))
   | exact ih0 _ _ _
   | exact ih1 _ _
   | exact ih2 _ _
   | exact ih3 _ _ _
   | exact ih4 _ _
   | exact ih5 _ _ _
   | exact ih6 _ _ _
   | exact gojsonnum_ScanDigits.mono _ _ _
   | exact LeO.none _
   | refine LeO.ite ?_ ?_
   | refine LeO.bind ?_ (fun _ => ?_)
theorem gojsonnum_Scan.mono : ∀ a0 k, LeO (gojsonnum_Scan.f k a0) (gojsonnum_Scan.f (k + 1) a0) := by
 intro a0 k
 obtain ⟨ih0, ih1, ih2, ih3, ih4, ih5, ih6⟩ := gojsonnum_Scan.mono_l k
 unfold gojsonnum_Scan.f
 repeat' first
   | (with_reducible exact ih0 _ _ _)
   | (with_reducible exact ih1 _ _)
   | (with_reducible exact ih2 _ _)
   | (with_reducible exact ih3 _ _ _)
   | (with_reducible exact ih4 _ _)
   | (with_reducible exact ih5 _ _ _)
   | (with_reducible exact ih6 _ _ _)
   | (with_reducible exact gojsonnum_ScanDigits.mono _ _ _)
   | (with_reducible exact LeO.refl _)
   | (with_reducible exact LeO.none _)
   | (with_reducible refine LeO.ite ?_ ?_)
   | (with_reducible refine LeO.bind ?_ (fun _ => ?_))
   | exact ih0 _ _ _
   | exact ih1 _ _
   | exact ih2 _ _
   | exact ih3 _ _ _
   | exact ih4 _ _
   | exact ih5 _ _ _
   | exact ih6 _ _ _
   | exact gojsonnum_ScanDigits.mono _ _ _
   | exact LeO.none _
   | refine LeO.ite ?_ ?_
   | refine LeO.bind ?_ (fun _ => ?_)
set_option maxHeartbeats 8000000 in
set_option maxRecDepth 100000 in
theorem gojsonnum_Scan.calls (k : Nat) (A0 : Option Addr) (c0 : Nat) (l0 : List Int) (r1 : Int) (r2 : Int) (w : World) (hr0 : Kd.C (Kd.int .u8) w A0 l0.length l0) (hc0 : l0.length ≤ c0) (hG : Glob w) (h : gojsonnum_Scan.f k l0 = some (r1, r2)) :
  Calls Tryd.prog 82 #[.slice A0 l0.length c0] w fun e w' => e = .returned (.tuple #[.int .i64 r1, .int .u8 r2]) ∧ Drawn0 w w' := by
 have HG := Aside0.mk hG
 clear hG
 have HR0 := Aside0.mk hr0
 have HC0 := Aside0.mk hc0
 clear hr0 hc0
 have H : (if 0 < (l0.length : Int) then (gojsonnum_Scan.j0 k l0 0 ((rd l0 0) == 45)) else (gojsonnum_Scan.j0 k l0 0 false)) = some (r1, r2) := h
 clear h
 have HC2 := Aside0.mk H
 clear H
 go_enter Tryd.func82, Tryd.ntmps82
 go_upto_region 2 with (fail)
 go_cut [15] (fun v15 wc => ∃ (kq : Nat) (x15_1 : Bool), v15 = .bool x15_1 ∧ Aside0 (gojsonnum_Scan.j0 kq l0 0 x15_1 = some (r1, r2)) ∧ Aside0 (kq ≤ k) ∧ Drawn0 w wc)
 case first =>
  have H := HC2.out
  clear HC2
  by_cases c3 : 0 < (l0.length : Int)
  ·rw [if_pos c3] at H
   have c3b0 : decide (0 < (l0.length : Int)) = true := decide_eq_true c3
   have c3b1 : decide (0 < l0.length) = true := decide_eq_true (by omega)
   clear c3
   (first | rw [c3b0] | (simp only [i64_w, i32_w]; rw [c3b0]) | skip)
   have H' := Aside0.mk H
   clear H
   have p115 : 0 ≤ (0 : Int) := (by omega)
   have q115 : 0 < (l0.length : Int) := of_decide_eq_true (by first | (with_reducible assumption) | assumption)
   obtain ⟨ad115, e115, hx115_0⟩ := Kd.at_int HR0.out 0 p115 q115
   cases e115
   have qi115 : (0 < l0.length) = True := eq_true (by omega)
   (try rw [show ((0 : Int)).toNat = 0 from rfl] at hx115_0)
   (try rw [Addr.add_zero'] at hx115_0)
   replace p115 := eq_true p115
   replace q115 := eq_true q115
   go_wp2
   go_meet
   case rel => exact ⟨_, (((rd l0 0) == 45)), (by first | rfl | (simp; done) | (simp [*]; done) | (simp [wrap64]; done)), H', ⟨by first | omega | exact Nat.le_refl _⟩, by repeat (first | exact Drawn0.refl _ | apply Drawn0.step)⟩
  ·rw [if_neg c3] at H
   have c3b0 : decide (0 < (l0.length : Int)) = false := decide_eq_false c3
   have c3b1 : decide (0 < l0.length) = false := decide_eq_false (by omega)
   clear c3
   (first | rw [c3b0] | (simp only [i64_w, i32_w]; rw [c3b0]) | skip)
   have H' := Aside0.mk H
   clear H
   go_wp2
   go_meet
   case rel => exact ⟨_, (false), (by first | rfl | (simp; done) | (simp [*]; done) | (simp [wrap64]; done)), H', ⟨by first | omega | exact Nat.le_refl _⟩, by repeat (first | exact Drawn0.refl _ | apply Drawn0.step)⟩
 case rest =>
  clear HC2
  try clear p1
  try clear q1
  try clear hx1
  try clear qi1
  try clear p2
  try clear c3
  try clear c3b0
  try clear c3b1
  try clear hx115_0
  try clear p115
  try clear q115
  obtain ⟨kq, x15_1, rfl, HA, HJ1, ⟨mc1, rfl⟩⟩ := hcut
  cases kq with
  | zero => exact absurd HA.out (by simp [gojsonnum_Scan.j0])
  | succ kj1 =>
   have H := HA.out
   clear HA
   simp only [gojsonnum_Scan.j0] at H
   have HC4 := Aside0.mk H
   clear H
   go_upto_if 15 with (fail)
   go_cut [4] (fun v4 wc => ∃ (kq : Nat) (x4_3 : Int), v4 = .int .i64 x4_3 ∧ Aside0 (gojsonnum_Scan.j1 kq l0 x4_3 = some (r1, r2)) ∧ Aside0 (kq ≤ kj1) ∧ Drawn0 w wc)
   case first =>
    have H := HC4.out
    clear HC4
    by_cases c5 : x15_1 = true
    ·subst c5
     have H1 : (gojsonnum_Scan.j1 kj1 l0 (wrap64 (0 + 1))) = some (r1, r2) := by rw [if_pos rfl] at H; exact H
     clear H
     have H := H1
     clear H1
     have H' := Aside0.mk H
     clear H
     go_wp2
     go_meet
     case rel => exact ⟨_, (wrap64 (0 + 1)), (by first | rfl | (simp; done) | (simp [*]; done) | (simp [wrap64]; done)), H', ⟨by have := HJ1.out; first | omega | exact Nat.le_refl _⟩, by repeat (first | exact Drawn0.refl _ | apply Drawn0.step)⟩
    ·replace c5 := Bool.eq_false_iff.mpr c5
     subst c5
     have H1 : (gojsonnum_Scan.j1 kj1 l0 0) = some (r1, r2) := by rw [if_neg (show ¬ (false = true) by decide)] at H; exact H
     clear H
     have H := H1
     clear H1
     have H' := Aside0.mk H
     clear H
     go_wp2
     go_meet
     case rel => exact ⟨_, (0), (by first | rfl | (simp; done) | (simp [*]; done) | (simp [wrap64]; done)), H', ⟨by have := HJ1.out; first | omega | exact Nat.le_refl _⟩, by repeat (first | exact Drawn0.refl _ | apply Drawn0.step)⟩
   case rest =>
    clear HC4
    try clear c1
    try clear p1
    try clear q1
    try clear hx1
    try clear qi1
    try clear p2
    try clear c3
    try clear c3b0
    try clear c3b1
    try clear c5
    try clear hx115_0
    try clear p1
    try clear p115
    try clear p2
    try clear q1
    try clear q115
    obtain ⟨kq, x4_3, rfl, HA, HJ3, ⟨mc3, rfl⟩⟩ := hcut
    cases kq with
    | zero => exact absurd HA.out (by simp [gojsonnum_Scan.j1])
    | succ kj3 =>
     have H := HA.out
     clear HA
     simp only [gojsonnum_Scan.j1] at H
     have HC6 := Aside0.mk H
     clear H
     go_upto_block 0 with (fail)
     go_cut [4] (fun v4 wc => ∃ (kq : Nat) (x4_5 : Int), v4 = .int .i64 x4_5 ∧ Aside0 (gojsonnum_Scan.j2 kq l0 x4_5 = some (r1, r2)) ∧ Aside0 (kq ≤ kj3) ∧ Drawn0 w wc)
     case first =>
      have H := HC6.out
      clear HC6
      by_cases c7 : x4_3 = (l0.length : Int)
      ·rw [if_pos c7] at H
       have c7b0 : (x4_3 == (l0.length : Int)) = true := beq_iff_eq.mpr c7
       have c7b1 : (x4_3 != (l0.length : Int)) = false := bne_eq_false_iff_eq.mpr c7
       clear c7
       (first | rw [c7b0] | (simp only [i64_w, i32_w]; rw [c7b0]) | skip)
       simp only [Option.some.injEq, Prod.mk.injEq] at H
       obtain ⟨rfl, rfl⟩ := H
       go_wp2
       go_ret2
       exact ⟨by first | rfl | (simp; done) | (simp [*]; done) | (simp [wrap64]; done), by repeat (first | exact Drawn0.refl _ | apply Drawn0.step)⟩
      ·rw [if_neg c7] at H
       have c7b0 : (x4_3 == (l0.length : Int)) = false := beq_eq_false_iff_ne.mpr c7
       have c7b1 : (x4_3 != (l0.length : Int)) = true := bne_iff_ne.mpr c7
       (first | rw [c7b0] | (simp only [i64_w, i32_w]; rw [c7b0]) | skip)
       by_cases c8 : 0 ≤ x4_3
       ·rw [if_pos c8] at H
        have c8b0 : decide (0 ≤ x4_3) = true := decide_eq_true c8
        clear c8
        by_cases c9 : x4_3 < (l0.length : Int)
        ·rw [if_pos c9] at H
         have c9b0 : decide (x4_3 < (l0.length : Int)) = true := decide_eq_true c9
         clear c9
         by_cases c10 : (rd l0 x4_3) = 48
         ·rw [if_pos c10] at H
          have c10b0 : ((rd l0 x4_3) == 48) = true := beq_iff_eq.mpr c10
          have c10b1 : ((rd l0 x4_3) != 48) = false := bne_eq_false_iff_eq.mpr c10
          clear c10
          have H' := Aside0.mk H
          clear H
          have p116 : 0 ≤ (x4_3 : Int) := of_decide_eq_true (by first | (with_reducible assumption) | assumption)
          have q116 : x4_3 < (l0.length : Int) := of_decide_eq_true (by first | (with_reducible assumption) | assumption)
          obtain ⟨ad116, e116, hx116_0⟩ := Kd.at_int HR0.out x4_3 p116 q116
          cases e116
          replace p116 := eq_true p116
          replace q116 := eq_true q116
          go_wp2
          go_meet
          case rel => exact ⟨_, (wrap64 (x4_3 + 1)), (by first | rfl | (simp; done) | (simp [*]; done) | (simp [wrap64]; done)), H', ⟨by have := HJ1.out; have := HJ3.out; first | omega | exact Nat.le_refl _⟩, by repeat (first | exact Drawn0.refl _ | apply Drawn0.step)⟩
         ·rw [if_neg c10] at H
          have c10b0 : ((rd l0 x4_3) == 48) = false := beq_eq_false_iff_ne.mpr c10
          have c10b1 : ((rd l0 x4_3) != 48) = true := bne_iff_ne.mpr c10
          by_cases c11 : 49 ≤ (rd l0 x4_3)
          ·rw [if_pos c11] at H
           have c11b0 : decide (49 ≤ (rd l0 x4_3)) = true := decide_eq_true c11
           clear c11
           by_cases c12 : (rd l0 x4_3) ≤ 57
           ·rw [if_pos c12] at H
            have c12b0 : decide ((rd l0 x4_3) ≤ 57) = true := decide_eq_true c12
            clear c12
            replace H := Option.bind_eq_some_iff.mp H
            obtain ⟨t119, A130, H⟩ := H
            replace H : (gojsonnum_Scan.j2 kj3 l0 t119) = some (r1, r2) := H
            have A13 := Aside0.mk A130
            clear A130
            have H' := Aside0.mk H
            clear H
            have p116 : 0 ≤ (x4_3 : Int) := of_decide_eq_true (by first | (with_reducible assumption) | assumption)
            have q116 : x4_3 < (l0.length : Int) := of_decide_eq_true (by first | (with_reducible assumption) | assumption)
            obtain ⟨ad116, e116, hx116_0⟩ := Kd.at_int HR0.out x4_3 p116 q116
            cases e116
            replace p116 := eq_true p116
            replace q116 := eq_true q116
            have p117 : 0 ≤ (x4_3 : Int) := of_decide_eq_true (by first | (with_reducible assumption) | assumption)
            have q117 : x4_3 < (l0.length : Int) := of_decide_eq_true (by first | (with_reducible assumption) | assumption)
            obtain ⟨ad117, e117, hx117_0⟩ := Kd.at_int HR0.out x4_3 p117 q117
            obtain rfl : ad116 = ad117 := (by injection e117)
            replace p117 := eq_true p117
            replace q117 := eq_true q117
            have p118 : 0 ≤ (x4_3 : Int) := of_decide_eq_true (by first | (with_reducible assumption) | assumption)
            have q118 : x4_3 < (l0.length : Int) := of_decide_eq_true (by first | (with_reducible assumption) | assumption)
            obtain ⟨ad118, e118, hx118_0⟩ := Kd.at_int HR0.out x4_3 p118 q118
            obtain rfl : ad116 = ad118 := (by injection e118)
            replace p118 := eq_true p118
            replace q118 := eq_true q118
            go_wp2_with (first | ((with_reducible refine gate_callee (f := 85) rfl ?_); refine goesL_ (some 49) rfl rfl Tryd.func85 (by kernel_rfl) rfl #[.slice (some ad116) l0.length c0, .int .i64 (wrap64 (x4_3 + 1))] rfl (by (try simp only [List.map_toArray, List.map_cons, List.map_nil]); first | done | rfl | (simp only [List.length_drop, List.length_take]; rfl)) ?_; (with_reducible refine (gojsonnum_ScanDigits.calls kj3 _ _ l0 (wrap64 (x4_3 + 1)) t119 _ ?side1 ?side2 ?side3 A13.out).mono ?_); (case side1 => repeat (first | exact HR0.out | (with_reducible refine Kd.C_alloc ?_ _) | (with_reducible refine Kd.C_drewN ?_ _) | (with_reducible refine Kd.C_drew ?_))); (case side2 => exact HC0.out); (case side3 => first | exact HG.out | exact Glob.drawn HG.out (by repeat (first | exact Drawn0.refl _ | apply Drawn0.step))); rintro e w' ⟨rfl, ⟨nd, rfl⟩⟩; refine ⟨_, rfl, ?_⟩))
            go_meet
            case rel => exact ⟨_, (t119), (by first | rfl | (simp; done) | (simp [*]; done) | (simp [wrap64]; done)), H', ⟨by have := HJ1.out; have := HJ3.out; first | omega | exact Nat.le_refl _⟩, by repeat (first | exact Drawn0.refl _ | apply Drawn0.step)⟩
           ·rw [if_neg c12] at H
            have c12b0 : decide ((rd l0 x4_3) ≤ 57) = false := decide_eq_false c12
            clear c12
            simp only [Option.some.injEq, Prod.mk.injEq] at H
            obtain ⟨rfl, rfl⟩ := H
            have p116 : 0 ≤ (x4_3 : Int) := of_decide_eq_true (by first | (with_reducible assumption) | assumption)
            have q116 : x4_3 < (l0.length : Int) := of_decide_eq_true (by first | (with_reducible assumption) | assumption)
            obtain ⟨ad116, e116, hx116_0⟩ := Kd.at_int HR0.out x4_3 p116 q116
            cases e116
            replace p116 := eq_true p116
            replace q116 := eq_true q116
            have p117 : 0 ≤ (x4_3 : Int) := of_decide_eq_true (by first | (with_reducible assumption) | assumption)
            have q117 : x4_3 < (l0.length : Int) := of_decide_eq_true (by first | (with_reducible assumption) | assumption)
            obtain ⟨ad117, e117, hx117_0⟩ := Kd.at_int HR0.out x4_3 p117 q117
            obtain rfl : ad116 = ad117 := (by injection e117)
            replace p117 := eq_true p117
            replace q117 := eq_true q117
            have p118 : 0 ≤ (x4_3 : Int) := of_decide_eq_true (by first | (with_reducible assumption) | assumption)
            have q118 : x4_3 < (l0.length : Int) := of_decide_eq_true (by first | (with_reducible assumption) | assumption)
            obtain ⟨ad118, e118, hx118_0⟩ := Kd.at_int HR0.out x4_3 p118 q118
            obtain rfl : ad116 = ad118 := (by injection e118)
            replace p118 := eq_true p118
            replace q118 := eq_true q118
            go_wp2
            go_ret2
            exact ⟨by first | rfl | (simp; done) | (simp [*]; done) | (simp [wrap64]; done), by repeat (first | exact Drawn0.refl _ | apply Drawn0.step)⟩
          ·rw [if_neg c11] at H
           have c11b0 : decide (49 ≤ (rd l0 x4_3)) = false := decide_eq_false c11
           clear c11
           simp only [Option.some.injEq, Prod.mk.injEq] at H
           obtain ⟨rfl, rfl⟩ := H
           have p116 : 0 ≤ (x4_3 : Int) := of_decide_eq_true (by first | (with_reducible assumption) | assumption)
           have q116 : x4_3 < (l0.length : Int) := of_decide_eq_true (by first | (with_reducible assumption) | assumption)
           obtain ⟨ad116, e116, hx116_0⟩ := Kd.at_int HR0.out x4_3 p116 q116
           cases e116
           replace p116 := eq_true p116
           replace q116 := eq_true q116
           have p117 : 0 ≤ (x4_3 : Int) := of_decide_eq_true (by first | (with_reducible assumption) | assumption)
           have q117 : x4_3 < (l0.length : Int) := of_decide_eq_true (by first | (with_reducible assumption) | assumption)
           obtain ⟨ad117, e117, hx117_0⟩ := Kd.at_int HR0.out x4_3 p117 q117
           obtain rfl : ad116 = ad117 := (by injection e117)
           replace p117 := eq_true p117
           replace q117 := eq_true q117
           go_wp2
           go_ret2
           exact ⟨by first | rfl | (simp; done) | (simp [*]; done) | (simp [wrap64]; done), by repeat (first | exact Drawn0.refl _ | apply Drawn0.step)⟩
        ·rw [if_neg c9] at H
         exact absurd H (by simp)
       ·rw [if_neg c8] at H
        exact absurd H (by simp)
     case rest =>
      clear HC6
      try clear c1
      try clear p1
      try clear q1
      try clear hx1
      try clear qi1
      try clear p2
      try clear c3
      try clear c3b0
      try clear c3b1
      try clear c5
      try clear p6
      try clear c7
      try clear c7b0
      try clear c7b1
      try clear c8
      try clear c8b0
      try clear c9
      try clear c9b0
      try clear c10
      try clear c10b0
      try clear c10b1
      try clear c11
      try clear c11b0
      try clear p11
      try clear q11
      try clear hx11
      try clear qi11
      try clear c12
      try clear c12b0
      try clear hx115_0
      try clear hx116_0
      try clear hx117_0
      try clear hx118_0
      try clear p1
      try clear p115
      try clear p116
      try clear p117
      try clear p118
      try clear p2
      try clear q1
      try clear q115
      try clear q116
      try clear q117
      try clear q118
      obtain ⟨kq, x4_5, rfl, HA, HJ5, ⟨mc5, rfl⟩⟩ := hcut
      cases kq with
      | zero => exact absurd HA.out (by simp [gojsonnum_Scan.j2])
      | succ kj5 =>
       have H := HA.out
       clear HA
       simp only [gojsonnum_Scan.j2] at H
       have HC14 := Aside0.mk H
       clear H
       go_upto_region 11 with (fail)
       go_cut [60] (fun v60 wc => ∃ (kq : Nat) (x60_13 : Bool), v60 = .bool x60_13 ∧ Aside0 (gojsonnum_Scan.j3 kq l0 x4_5 x60_13 = some (r1, r2)) ∧ Aside0 (kq ≤ kj5) ∧ Drawn0 w wc)
       case first =>
        have H := HC14.out
        clear HC14
        by_cases c15 : x4_5 < (l0.length : Int)
        ·rw [if_pos c15] at H
         have c15b0 : decide (x4_5 < (l0.length : Int)) = true := decide_eq_true c15
         clear c15
         (first | rw [c15b0] | (simp only [i64_w, i32_w]; rw [c15b0]) | skip)
         by_cases c16 : 0 ≤ x4_5
         ·rw [if_pos c16] at H
          have c16b0 : decide (0 ≤ x4_5) = true := decide_eq_true c16
          clear c16
          have H' := Aside0.mk H
          clear H
          have p120 : 0 ≤ (x4_5 : Int) := of_decide_eq_true (by first | (with_reducible assumption) | assumption)
          have q120 : x4_5 < (l0.length : Int) := of_decide_eq_true (by first | (with_reducible assumption) | assumption)
          obtain ⟨ad120, e120, hx120_0⟩ := Kd.at_int HR0.out x4_5 p120 q120
          cases e120
          replace p120 := eq_true p120
          replace q120 := eq_true q120
          go_wp2
          go_meet
          case rel => exact ⟨_, (((rd l0 x4_5) == 46)), (by first | rfl | (simp; done) | (simp [*]; done) | (simp [wrap64]; done)), H', ⟨by have := HJ1.out; have := HJ3.out; have := HJ5.out; first | omega | exact Nat.le_refl _⟩, by repeat (first | exact Drawn0.refl _ | apply Drawn0.step)⟩
         ·rw [if_neg c16] at H
          exact absurd H (by simp)
        ·rw [if_neg c15] at H
         have c15b0 : decide (x4_5 < (l0.length : Int)) = false := decide_eq_false c15
         clear c15
         (first | rw [c15b0] | (simp only [i64_w, i32_w]; rw [c15b0]) | skip)
         have H' := Aside0.mk H
         clear H
         go_wp2
         go_meet
         case rel => exact ⟨_, (false), (by first | rfl | (simp; done) | (simp [*]; done) | (simp [wrap64]; done)), H', ⟨by have := HJ1.out; have := HJ3.out; have := HJ5.out; first | omega | exact Nat.le_refl _⟩, by repeat (first | exact Drawn0.refl _ | apply Drawn0.step)⟩
       case rest =>
        clear HC14
        try clear c1
        try clear p1
        try clear q1
        try clear hx1
        try clear qi1
        try clear p2
        try clear c3
        try clear c3b0
        try clear c3b1
        try clear c5
        try clear p6
        try clear c7
        try clear c7b0
        try clear c7b1
        try clear c8
        try clear c8b0
        try clear c9
        try clear c9b0
        try clear c10
        try clear c10b0
        try clear c10b1
        try clear c11
        try clear c11b0
        try clear p11
        try clear q11
        try clear hx11
        try clear qi11
        try clear c12
        try clear c12b0
        try clear p12
        try clear q12
        try clear hx12
        try clear c15
        try clear c15b0
        try clear c16
        try clear c16b0
        try clear hx115_0
        try clear hx116_0
        try clear hx117_0
        try clear hx118_0
        try clear hx120_0
        try clear p1
        try clear p11
        try clear p115
        try clear p116
        try clear p117
        try clear p118
        try clear p120
        try clear p2
        try clear p6
        try clear q1
        try clear q11
        try clear q115
        try clear q116
        try clear q117
        try clear q118
        try clear q120
        obtain ⟨kq, x60_13, rfl, HA, HJ13, ⟨mc13, rfl⟩⟩ := hcut
        cases kq with
        | zero => exact absurd HA.out (by simp [gojsonnum_Scan.j3])
        | succ kj13 =>
         have H := HA.out
         clear HA
         simp only [gojsonnum_Scan.j3] at H
         have HC17 := Aside0.mk H
         clear H
         go_upto_if 60 with (fail)
         go_cut [4] (fun v4 wc => ∃ (kq : Nat) (x4_16 : Int), v4 = .int .i64 x4_16 ∧ Aside0 (gojsonnum_Scan.j4 kq l0 x4_16 = some (r1, r2)) ∧ Aside0 (kq ≤ kj13) ∧ Drawn0 w wc)
         case first =>
          have H := HC17.out
          clear HC17
          by_cases c18 : x60_13 = true
          ·subst c18
           have H1 : (if (wrap64 (x4_5 + 1)) = (l0.length : Int) then (some (wrap64 (x4_5 + 1), 2)) else (if 0 ≤ (wrap64 (x4_5 + 1)) then (if (wrap64 (x4_5 + 1)) < (l0.length : Int) then (if (rd l0 (wrap64 (x4_5 + 1))) < 48 then (some (wrap64 (x4_5 + 1), 2)) else (if 57 < (rd l0 (wrap64 (x4_5 + 1))) then (some (wrap64 (x4_5 + 1), 2)) else ((gojsonnum_ScanDigits.f kj13 l0 (wrap64 ((wrap64 (x4_5 + 1)) + 1))).bind fun t123 => (gojsonnum_Scan.j4 kj13 l0 t123)))) else (none)) else (none))) = some (r1, r2) := by rw [if_pos rfl] at H; exact H
           clear H
           have H := H1
           clear H1
           by_cases c19 : (wrap64 (x4_5 + 1)) = (l0.length : Int)
           ·rw [if_pos c19] at H
            have c19b0 : ((wrap64 (x4_5 + 1)) == (l0.length : Int)) = true := beq_iff_eq.mpr c19
            have c19b1 : ((wrap64 (x4_5 + 1)) != (l0.length : Int)) = false := bne_eq_false_iff_eq.mpr c19
            clear c19
            (first | rw [c19b0] | (simp only [i64_w, i32_w]; rw [c19b0]) | skip)
            simp only [Option.some.injEq, Prod.mk.injEq] at H
            obtain ⟨rfl, rfl⟩ := H
            go_wp2
            go_ret2
            exact ⟨by first | rfl | (simp; done) | (simp [*]; done) | (simp [wrap64]; done), by repeat (first | exact Drawn0.refl _ | apply Drawn0.step)⟩
           ·rw [if_neg c19] at H
            have c19b0 : ((wrap64 (x4_5 + 1)) == (l0.length : Int)) = false := beq_eq_false_iff_ne.mpr c19
            have c19b1 : ((wrap64 (x4_5 + 1)) != (l0.length : Int)) = true := bne_iff_ne.mpr c19
            (first | rw [c19b0] | (simp only [i64_w, i32_w]; rw [c19b0]) | skip)
            obtain ⟨ji20, hji20⟩ : ∃ j_ : Int, (wrap64 (x4_5 + 1)) = j_ := ⟨_, rfl⟩
            replace H : (if 0 ≤ (ji20) then (if (ji20) < (l0.length : Int) then (if (rd l0 (ji20)) < 48 then (some (ji20, 2)) else (if 57 < (rd l0 (ji20)) then (some (ji20, 2)) else ((gojsonnum_ScanDigits.f kj13 l0 (wrap64 ((ji20) + 1))).bind fun t123 => (gojsonnum_Scan.j4 kj13 l0 t123)))) else (none)) else (none)) = some (r1, r2) := by first | (rw [hji20] at H; exact H) | (simp only [hji20] at H ⊢; exact H)
            (try rw [hji20] at c19b0)
            (try rw [hji20] at c19b1)
            have hji20w : (IntKind.i64.wrap (x4_5 + 1)) = ji20 := (i64_w _).trans hji20
            by_cases c21 : 0 ≤ (ji20)
            ·rw [if_pos c21] at H
             have c21b0 : decide (0 ≤ (ji20)) = true := decide_eq_true c21
             clear c21
             by_cases c22 : (ji20) < (l0.length : Int)
             ·rw [if_pos c22] at H
              have c22b0 : decide ((ji20) < (l0.length : Int)) = true := decide_eq_true c22
              clear c22
              by_cases c23 : (rd l0 (ji20)) < 48
              ·rw [if_pos c23] at H
               have c23b0 : decide ((rd l0 (ji20)) < 48) = true := decide_eq_true c23
               clear c23
               simp only [Option.some.injEq, Prod.mk.injEq] at H
               obtain ⟨rfl, rfl⟩ := H
               have p121 : 0 ≤ ((ji20) : Int) := of_decide_eq_true (by first | (with_reducible assumption) | assumption)
               have q121 : (ji20) < (l0.length : Int) := of_decide_eq_true (by first | (with_reducible assumption) | assumption)
               obtain ⟨ad121, e121, hx121_0⟩ := Kd.at_int HR0.out (ji20) p121 q121
               cases e121
               replace p121 := eq_true p121
               replace q121 := eq_true q121
               go_wp2
               go_ret2
               exact ⟨by first | rfl | (simp; done) | (simp only [← hji20] <;> (first | rfl | simp)) | (simp [*]; done) | (simp [wrap64]; done), by repeat (first | exact Drawn0.refl _ | apply Drawn0.step)⟩
              ·rw [if_neg c23] at H
               have c23b0 : decide ((rd l0 (ji20)) < 48) = false := decide_eq_false c23
               clear c23
               by_cases c24 : 57 < (rd l0 (ji20))
               ·rw [if_pos c24] at H
                have c24b0 : decide (57 < (rd l0 (ji20))) = true := decide_eq_true c24
                clear c24
                simp only [Option.some.injEq, Prod.mk.injEq] at H
                obtain ⟨rfl, rfl⟩ := H
                have p121 : 0 ≤ ((ji20) : Int) := of_decide_eq_true (by first | (with_reducible assumption) | assumption)
                have q121 : (ji20) < (l0.length : Int) := of_decide_eq_true (by first | (with_reducible assumption) | assumption)
                obtain ⟨ad121, e121, hx121_0⟩ := Kd.at_int HR0.out (ji20) p121 q121
                cases e121
                replace p121 := eq_true p121
                replace q121 := eq_true q121
                have p122 : 0 ≤ ((ji20) : Int) := of_decide_eq_true (by first | (with_reducible assumption) | assumption)
                have q122 : (ji20) < (l0.length : Int) := of_decide_eq_true (by first | (with_reducible assumption) | assumption)
                obtain ⟨ad122, e122, hx122_0⟩ := Kd.at_int HR0.out (ji20) p122 q122
                obtain rfl : ad121 = ad122 := (by injection e122)
                replace p122 := eq_true p122
                replace q122 := eq_true q122
                go_wp2
                go_ret2
                exact ⟨by first | rfl | (simp; done) | (simp only [← hji20] <;> (first | rfl | simp)) | (simp [*]; done) | (simp [wrap64]; done), by repeat (first | exact Drawn0.refl _ | apply Drawn0.step)⟩
               ·rw [if_neg c24] at H
                have c24b0 : decide (57 < (rd l0 (ji20))) = false := decide_eq_false c24
                clear c24
                replace H := Option.bind_eq_some_iff.mp H
                obtain ⟨t123, A250, H⟩ := H
                replace H : (gojsonnum_Scan.j4 kj13 l0 t123) = some (r1, r2) := H
                have A25 := Aside0.mk A250
                clear A250
                have H' := Aside0.mk H
                clear H
                have p121 : 0 ≤ ((ji20) : Int) := of_decide_eq_true (by first | (with_reducible assumption) | assumption)
                have q121 : (ji20) < (l0.length : Int) := of_decide_eq_true (by first | (with_reducible assumption) | assumption)
                obtain ⟨ad121, e121, hx121_0⟩ := Kd.at_int HR0.out (ji20) p121 q121
                cases e121
                replace p121 := eq_true p121
                replace q121 := eq_true q121
                have p122 : 0 ≤ ((ji20) : Int) := of_decide_eq_true (by first | (with_reducible assumption) | assumption)
                have q122 : (ji20) < (l0.length : Int) := of_decide_eq_true (by first | (with_reducible assumption) | assumption)
                obtain ⟨ad122, e122, hx122_0⟩ := Kd.at_int HR0.out (ji20) p122 q122
                obtain rfl : ad121 = ad122 := (by injection e122)
                replace p122 := eq_true p122
                replace q122 := eq_true q122
                go_wp2_with (first | ((with_reducible refine gate_callee (f := 85) rfl ?_); refine goesL_ (some 85) rfl rfl Tryd.func85 (by kernel_rfl) rfl #[.slice (some ad121) l0.length c0, .int .i64 (wrap64 ((ji20) + 1))] rfl (by (try simp only [List.map_toArray, List.map_cons, List.map_nil]); first | done | (simp only [hji20]; rfl) | rfl | (simp only [List.length_drop, List.length_take]; rfl)) ?_; (with_reducible refine (gojsonnum_ScanDigits.calls kj13 _ _ l0 (wrap64 ((ji20) + 1)) t123 _ ?side1 ?side2 ?side3 A25.out).mono ?_); (case side1 => repeat (first | exact HR0.out | (with_reducible refine Kd.C_alloc ?_ _) | (with_reducible refine Kd.C_drewN ?_ _) | (with_reducible refine Kd.C_drew ?_))); (case side2 => exact HC0.out); (case side3 => first | exact HG.out | exact Glob.drawn HG.out (by repeat (first | exact Drawn0.refl _ | apply Drawn0.step))); rintro e w' ⟨rfl, ⟨nd, rfl⟩⟩; refine ⟨_, rfl, ?_⟩))
                first | (go_meet) | (subst hji20; go_meet)
                case rel => first | (exact ⟨_, (t123), (by first | rfl | (simp; done) | (simp [*]; done) | (simp [wrap64]; done)), H', ⟨by have := HJ1.out; have := HJ3.out; have := HJ5.out; have := HJ13.out; first | omega | exact Nat.le_refl _⟩, by repeat (first | exact Drawn0.refl _ | apply Drawn0.step)⟩) | (subst hji20; exact ⟨_, (t123), (by first | rfl | (simp; done) | (simp [*]; done) | (simp [wrap64]; done)), H', ⟨by have := HJ1.out; have := HJ3.out; have := HJ5.out; have := HJ13.out; first | omega | exact Nat.le_refl _⟩, by repeat (first | exact Drawn0.refl _ | apply Drawn0.step)⟩) | (exact ⟨_, (t123), (by first | rfl | (simp; done) | (simp [*]; done) | (simp [wrap64]; done)), H', ⟨by have := HJ1.out; have := HJ3.out; have := HJ5.out; have := HJ13.out; first | omega | exact Nat.le_refl _⟩, by repeat (first | exact Drawn0.refl _ | apply Drawn0.step)⟩)
             ·rw [if_neg c22] at H
              exact absurd H (by simp)
            ·rw [if_neg c21] at H
             exact absurd H (by simp)
          ·replace c18 := Bool.eq_false_iff.mpr c18
           subst c18
           have H1 : (gojsonnum_Scan.j4 kj13 l0 x4_5) = some (r1, r2) := by rw [if_neg (show ¬ (false = true) by decide)] at H; exact H
           clear H
           have H := H1
           clear H1
           have H' := Aside0.mk H
           clear H
           go_wp2
           go_meet
           case rel => exact ⟨_, (x4_5), (by first | rfl | (simp; done) | (simp [*]; done) | (simp [wrap64]; done)), H', ⟨by have := HJ1.out; have := HJ3.out; have := HJ5.out; have := HJ13.out; first | omega | exact Nat.le_refl _⟩, by repeat (first | exact Drawn0.refl _ | apply Drawn0.step)⟩
         case rest =>
          clear HC17
          try clear c1
          try clear p1
          try clear q1
          try clear hx1
          try clear qi1
          try clear c2
          try clear p2
          try clear c3
          try clear c3b0
          try clear c3b1
          try clear c5
          try clear p6
          try clear c7
          try clear c7b0
          try clear c7b1
          try clear c8
          try clear c8b0
          try clear c9
          try clear c9b0
          try clear c10
          try clear c10b0
          try clear c10b1
          try clear c11
          try clear c11b0
          try clear p11
          try clear q11
          try clear hx11
          try clear qi11
          try clear c12
          try clear c12b0
          try clear p12
          try clear q12
          try clear hx12
          try clear c13
          try clear c15
          try clear c15b0
          try clear c16
          try clear c16b0
          try clear c18
          try clear c19
          try clear c19b0
          try clear c19b1
          try clear c21
          try clear c21b0
          try clear c22
          try clear c22b0
          try clear c23
          try clear c23b0
          try clear c24
          try clear c24b0
          try clear hx115_0
          try clear hx116_0
          try clear hx117_0
          try clear hx118_0
          try clear hx120_0
          try clear hx121_0
          try clear hx122_0
          try clear p1
          try clear p11
          try clear p115
          try clear p116
          try clear p117
          try clear p118
          try clear p12
          try clear p120
          try clear p121
          try clear p122
          try clear p2
          try clear p6
          try clear q1
          try clear q11
          try clear q115
          try clear q116
          try clear q117
          try clear q118
          try clear q12
          try clear q120
          try clear q121
          try clear q122
          obtain ⟨kq, x4_16, rfl, HA, HJ16, ⟨mc16, rfl⟩⟩ := hcut
          cases kq with
          | zero => exact absurd HA.out (by simp [gojsonnum_Scan.j4])
          | succ kj16 =>
           have H := HA.out
           clear HA
           simp only [gojsonnum_Scan.j4] at H
           have HC26 := Aside0.mk H
           clear H
           go_upto_region 16 with (fail)
           go_cut [103] (fun v103 wc => ∃ (kq : Nat) (x103_25 : Bool), v103 = .bool x103_25 ∧ Aside0 (gojsonnum_Scan.j5 kq l0 x4_16 x103_25 = some (r1, r2)) ∧ Aside0 (kq ≤ kj16) ∧ Drawn0 w wc)
           case first =>
            have H := HC26.out
            clear HC26
            by_cases c27 : x4_16 < (l0.length : Int)
            ·rw [if_pos c27] at H
             have c27b0 : decide (x4_16 < (l0.length : Int)) = true := decide_eq_true c27
             clear c27
             (first | rw [c27b0] | (simp only [i64_w, i32_w]; rw [c27b0]) | skip)
             by_cases c28 : 0 ≤ x4_16
             ·rw [if_pos c28] at H
              have c28b0 : decide (0 ≤ x4_16) = true := decide_eq_true c28
              clear c28
              by_cases c29 : (rd l0 x4_16) = 101
              ·rw [if_pos c29] at H
               have c29b0 : ((rd l0 x4_16) == 101) = true := beq_iff_eq.mpr c29
               have c29b1 : ((rd l0 x4_16) != 101) = false := bne_eq_false_iff_eq.mpr c29
               clear c29
               have H' := Aside0.mk H
               clear H
               have p124 : 0 ≤ (x4_16 : Int) := of_decide_eq_true (by first | (with_reducible assumption) | assumption)
               have q124 : x4_16 < (l0.length : Int) := of_decide_eq_true (by first | (with_reducible assumption) | assumption)
               obtain ⟨ad124, e124, hx124_0⟩ := Kd.at_int HR0.out x4_16 p124 q124
               cases e124
               replace p124 := eq_true p124
               replace q124 := eq_true q124
               go_wp2
               go_meet
               case rel => exact ⟨_, (true), (by first | rfl | (simp; done) | (simp [*]; done) | (simp [wrap64]; done)), H', ⟨by have := HJ1.out; have := HJ3.out; have := HJ5.out; have := HJ13.out; have := HJ16.out; first | omega | exact Nat.le_refl _⟩, by repeat (first | exact Drawn0.refl _ | apply Drawn0.step)⟩
              ·rw [if_neg c29] at H
               have c29b0 : ((rd l0 x4_16) == 101) = false := beq_eq_false_iff_ne.mpr c29
               have c29b1 : ((rd l0 x4_16) != 101) = true := bne_iff_ne.mpr c29
               have H' := Aside0.mk H
               clear H
               have p124 : 0 ≤ (x4_16 : Int) := of_decide_eq_true (by first | (with_reducible assumption) | assumption)
               have q124 : x4_16 < (l0.length : Int) := of_decide_eq_true (by first | (with_reducible assumption) | assumption)
               obtain ⟨ad124, e124, hx124_0⟩ := Kd.at_int HR0.out x4_16 p124 q124
               cases e124
               replace p124 := eq_true p124
               replace q124 := eq_true q124
               have p125 : 0 ≤ (x4_16 : Int) := of_decide_eq_true (by first | (with_reducible assumption) | assumption)
               have q125 : x4_16 < (l0.length : Int) := of_decide_eq_true (by first | (with_reducible assumption) | assumption)
               obtain ⟨ad125, e125, hx125_0⟩ := Kd.at_int HR0.out x4_16 p125 q125
               obtain rfl : ad124 = ad125 := (by injection e125)
               replace p125 := eq_true p125
               replace q125 := eq_true q125
               go_wp2
               go_meet
               case rel => exact ⟨_, (((rd l0 x4_16) == 69)), (by first | rfl | (simp; done) | (simp [*]; done) | (simp [wrap64]; done)), H', ⟨by have := HJ1.out; have := HJ3.out; have := HJ5.out; have := HJ13.out; have := HJ16.out; first | omega | exact Nat.le_refl _⟩, by repeat (first | exact Drawn0.refl _ | apply Drawn0.step)⟩
             ·rw [if_neg c28] at H
              exact absurd H (by simp)
            ·rw [if_neg c27] at H
             have c27b0 : decide (x4_16 < (l0.length : Int)) = false := decide_eq_false c27
             clear c27
             (first | rw [c27b0] | (simp only [i64_w, i32_w]; rw [c27b0]) | skip)
             have H' := Aside0.mk H
             clear H
             go_wp2
             go_meet
             case rel => exact ⟨_, (false), (by first | rfl | (simp; done) | (simp [*]; done) | (simp [wrap64]; done)), H', ⟨by have := HJ1.out; have := HJ3.out; have := HJ5.out; have := HJ13.out; have := HJ16.out; first | omega | exact Nat.le_refl _⟩, by repeat (first | exact Drawn0.refl _ | apply Drawn0.step)⟩
           case rest =>
            clear HC26
            try clear c1
            try clear p1
            try clear q1
            try clear hx1
            try clear qi1
            try clear c2
            try clear p2
            try clear c3
            try clear c3b0
            try clear c3b1
            try clear c5
            try clear p6
            try clear c7
            try clear c7b0
            try clear c7b1
            try clear c8
            try clear c8b0
            try clear c9
            try clear c9b0
            try clear c10
            try clear c10b0
            try clear c10b1
            try clear c11
            try clear c11b0
            try clear p11
            try clear q11
            try clear hx11
            try clear qi11
            try clear c12
            try clear c12b0
            try clear p12
            try clear q12
            try clear hx12
            try clear c13
            try clear c15
            try clear c15b0
            try clear c16
            try clear c16b0
            try clear c18
            try clear c19
            try clear c19b0
            try clear c19b1
            try clear c21
            try clear c21b0
            try clear c22
            try clear c22b0
            try clear c23
            try clear c23b0
            try clear c24
            try clear c24b0
            try clear c27
            try clear c27b0
            try clear c28
            try clear c28b0
            try clear c29
            try clear c29b0
            try clear c29b1
            try clear hx115_0
            try clear hx116_0
            try clear hx117_0
            try clear hx118_0
            try clear hx120_0
            try clear hx121_0
            try clear hx122_0
            try clear hx124_0
            try clear hx125_0
            try clear p1
            try clear p11
            try clear p115
            try clear p116
            try clear p117
            try clear p118
            try clear p12
            try clear p120
            try clear p121
            try clear p122
            try clear p124
            try clear p125
            try clear p2
            try clear p6
            try clear q1
            try clear q11
            try clear q115
            try clear q116
            try clear q117
            try clear q118
            try clear q12
            try clear q120
            try clear q121
            try clear q122
            try clear q124
            try clear q125
            obtain ⟨kq, x103_25, rfl, HA, HJ25, ⟨mc25, rfl⟩⟩ := hcut
            cases kq with
            | zero => exact absurd HA.out (by simp [gojsonnum_Scan.j5])
            | succ kj25 =>
             have H := HA.out
             clear HA
             simp only [gojsonnum_Scan.j5] at H
             by_cases c30 : x103_25 = true
             ·subst c30
              have H1 : (if (wrap64 (x4_16 + 1)) < (l0.length : Int) then (if 0 ≤ (wrap64 (x4_16 + 1)) then (if (rd l0 (wrap64 (x4_16 + 1))) = 43 then (gojsonnum_Scan.j6 kj25 l0 (wrap64 (x4_16 + 1)) true) else (gojsonnum_Scan.j6 kj25 l0 (wrap64 (x4_16 + 1)) ((rd l0 (wrap64 (x4_16 + 1))) == 45))) else (none)) else (gojsonnum_Scan.j6 kj25 l0 (wrap64 (x4_16 + 1)) false)) = some (r1, r2) := by rw [if_pos rfl] at H; exact H
              clear H
              have H := H1
              clear H1
              have HC31 := Aside0.mk H
              clear H
              go_upto_region 18 with (fail)
              go_cut [123] (fun v123 wc => ∃ (kq : Nat) (x123_30 : Bool), v123 = .bool x123_30 ∧ Aside0 (gojsonnum_Scan.j6 kq l0 (wrap64 (x4_16 + 1)) x123_30 = some (r1, r2)) ∧ Aside0 (kq ≤ kj25) ∧ Drawn0 w wc)
              case first =>
               have H := HC31.out
               clear HC31
               by_cases c32 : (wrap64 (x4_16 + 1)) < (l0.length : Int)
               ·rw [if_pos c32] at H
                have c32b0 : decide ((wrap64 (x4_16 + 1)) < (l0.length : Int)) = true := decide_eq_true c32
                clear c32
                (first | rw [c32b0] | (simp only [i64_w, i32_w]; rw [c32b0]) | skip)
                obtain ⟨ji33, hji33⟩ : ∃ j_ : Int, (wrap64 (x4_16 + 1)) = j_ := ⟨_, rfl⟩
                replace H : (if 0 ≤ (ji33) then (if (rd l0 (ji33)) = 43 then (gojsonnum_Scan.j6 kj25 l0 ji33 true) else (gojsonnum_Scan.j6 kj25 l0 ji33 ((rd l0 (ji33)) == 45))) else (none)) = some (r1, r2) := by first | (rw [hji33] at H; exact H) | (simp only [hji33] at H ⊢; exact H)
                (try rw [hji33] at c32b0)
                have hji33w : (IntKind.i64.wrap (x4_16 + 1)) = ji33 := (i64_w _).trans hji33
                by_cases c34 : 0 ≤ (ji33)
                ·rw [if_pos c34] at H
                 have c34b0 : decide (0 ≤ (ji33)) = true := decide_eq_true c34
                 clear c34
                 by_cases c35 : (rd l0 (ji33)) = 43
                 ·rw [if_pos c35] at H
                  have c35b0 : ((rd l0 (ji33)) == 43) = true := beq_iff_eq.mpr c35
                  have c35b1 : ((rd l0 (ji33)) != 43) = false := bne_eq_false_iff_eq.mpr c35
                  clear c35
                  have H' := Aside0.mk H
                  clear H
                  have p126 : 0 ≤ ((ji33) : Int) := of_decide_eq_true (by first | (with_reducible assumption) | assumption)
                  have q126 : (ji33) < (l0.length : Int) := of_decide_eq_true (by first | (with_reducible assumption) | assumption)
                  obtain ⟨ad126, e126, hx126_0⟩ := Kd.at_int HR0.out (ji33) p126 q126
                  cases e126
                  replace p126 := eq_true p126
                  replace q126 := eq_true q126
                  go_wp2
                  first | (go_meet) | (subst hji33; go_meet)
                  case rel => first | (exact ⟨_, (true), (by first | rfl | (simp; done) | (simp [*]; done) | (simp [wrap64]; done)), H', ⟨by have := HJ1.out; have := HJ3.out; have := HJ5.out; have := HJ13.out; have := HJ16.out; have := HJ25.out; first | omega | exact Nat.le_refl _⟩, by repeat (first | exact Drawn0.refl _ | apply Drawn0.step)⟩) | (subst hji33; exact ⟨_, (true), (by first | rfl | (simp; done) | (simp [*]; done) | (simp [wrap64]; done)), H', ⟨by have := HJ1.out; have := HJ3.out; have := HJ5.out; have := HJ13.out; have := HJ16.out; have := HJ25.out; first | omega | exact Nat.le_refl _⟩, by repeat (first | exact Drawn0.refl _ | apply Drawn0.step)⟩) | (exact ⟨_, (true), (by first | rfl | (simp; done) | (simp [*]; done) | (simp [wrap64]; done)), H', ⟨by have := HJ1.out; have := HJ3.out; have := HJ5.out; have := HJ13.out; have := HJ16.out; have := HJ25.out; first | omega | exact Nat.le_refl _⟩, by repeat (first | exact Drawn0.refl _ | apply Drawn0.step)⟩)
                 ·rw [if_neg c35] at H
                  have c35b0 : ((rd l0 (ji33)) == 43) = false := beq_eq_false_iff_ne.mpr c35
                  have c35b1 : ((rd l0 (ji33)) != 43) = true := bne_iff_ne.mpr c35
                  have H' := Aside0.mk H
                  clear H
                  have p126 : 0 ≤ ((ji33) : Int) := of_decide_eq_true (by first | (with_reducible assumption) | assumption)
                  have q126 : (ji33) < (l0.length : Int) := of_decide_eq_true (by first | (with_reducible assumption) | assumption)
                  obtain ⟨ad126, e126, hx126_0⟩ := Kd.at_int HR0.out (ji33) p126 q126
                  cases e126
                  replace p126 := eq_true p126
                  replace q126 := eq_true q126
                  have p127 : 0 ≤ ((ji33) : Int) := of_decide_eq_true (by first | (with_reducible assumption) | assumption)
                  have q127 : (ji33) < (l0.length : Int) := of_decide_eq_true (by first | (with_reducible assumption) | assumption)
                  obtain ⟨ad127, e127, hx127_0⟩ := Kd.at_int HR0.out (ji33) p127 q127
                  obtain rfl : ad126 = ad127 := (by injection e127)
                  replace p127 := eq_true p127
                  replace q127 := eq_true q127
                  go_wp2
                  first | (go_meet) | (subst hji33; go_meet)
                  case rel => first | (exact ⟨_, (((rd l0 (ji33)) == 45)), (by first | rfl | (simp; done) | (simp only [← hji33] <;> (first | rfl | simp)) | (simp [*]; done) | (simp [wrap64]; done)), H', ⟨by have := HJ1.out; have := HJ3.out; have := HJ5.out; have := HJ13.out; have := HJ16.out; have := HJ25.out; first | omega | exact Nat.le_refl _⟩, by repeat (first | exact Drawn0.refl _ | apply Drawn0.step)⟩) | (subst hji33; exact ⟨_, (((rd l0 ((wrap64 (x4_16 + 1)))) == 45)), (by first | rfl | (simp; done) | (simp only [← hji33] <;> (first | rfl | simp)) | (simp [*]; done) | (simp [wrap64]; done)), H', ⟨by have := HJ1.out; have := HJ3.out; have := HJ5.out; have := HJ13.out; have := HJ16.out; have := HJ25.out; first | omega | exact Nat.le_refl _⟩, by repeat (first | exact Drawn0.refl _ | apply Drawn0.step)⟩) | (exact ⟨_, (((rd l0 ((wrap64 (x4_16 + 1)))) == 45)), (by first | rfl | (simp; done) | (simp only [← hji33] <;> (first | rfl | simp)) | (simp [*]; done) | (simp [wrap64]; done)), H', ⟨by have := HJ1.out; have := HJ3.out; have := HJ5.out; have := HJ13.out; have := HJ16.out; have := HJ25.out; first | omega | exact Nat.le_refl _⟩, by repeat (first | exact Drawn0.refl _ | apply Drawn0.step)⟩)
                ·rw [if_neg c34] at H
                 exact absurd H (by simp)
               ·rw [if_neg c32] at H
                have c32b0 : decide ((wrap64 (x4_16 + 1)) < (l0.length : Int)) = false := decide_eq_false c32
                clear c32
                (first | rw [c32b0] | (simp only [i64_w, i32_w]; rw [c32b0]) | skip)
                have H' := Aside0.mk H
                clear H
                go_wp2
                go_meet
                case rel => exact ⟨_, (false), (by first | rfl | (simp; done) | (simp [*]; done) | (simp [wrap64]; done)), H', ⟨by have := HJ1.out; have := HJ3.out; have := HJ5.out; have := HJ13.out; have := HJ16.out; have := HJ25.out; first | omega | exact Nat.le_refl _⟩, by repeat (first | exact Drawn0.refl _ | apply Drawn0.step)⟩
              case rest =>
               clear HC31
               try clear c1
               try clear p1
               try clear q1
               try clear hx1
               try clear qi1
               try clear c2
               try clear p2
               try clear c3
               try clear c3b0
               try clear c3b1
               try clear c5
               try clear p6
               try clear c7
               try clear c7b0
               try clear c7b1
               try clear c8
               try clear c8b0
               try clear c9
               try clear c9b0
               try clear c10
               try clear c10b0
               try clear c10b1
               try clear c11
               try clear c11b0
               try clear p11
               try clear q11
               try clear hx11
               try clear qi11
               try clear c12
               try clear c12b0
               try clear p12
               try clear q12
               try clear hx12
               try clear c13
               try clear c15
               try clear c15b0
               try clear c16
               try clear c16b0
               try clear c18
               try clear c19
               try clear c19b0
               try clear c19b1
               try clear c21
               try clear c21b0
               try clear c22
               try clear c22b0
               try clear c23
               try clear c23b0
               try clear c24
               try clear c24b0
               try clear c25
               try clear c27
               try clear c27b0
               try clear c28
               try clear c28b0
               try clear c29
               try clear c29b0
               try clear c29b1
               try clear c30
               try clear c32
               try clear c32b0
               try clear c34
               try clear c34b0
               try clear c35
               try clear c35b0
               try clear c35b1
               try clear hx115_0
               try clear hx116_0
               try clear hx117_0
               try clear hx118_0
               try clear hx120_0
               try clear hx121_0
               try clear hx122_0
               try clear hx124_0
               try clear hx125_0
               try clear hx126_0
               try clear hx127_0
               try clear p1
               try clear p11
               try clear p115
               try clear p116
               try clear p117
               try clear p118
               try clear p12
               try clear p120
               try clear p121
               try clear p122
               try clear p124
               try clear p125
               try clear p126
               try clear p127
               try clear p2
               try clear p6
               try clear q1
               try clear q11
               try clear q115
               try clear q116
               try clear q117
               try clear q118
               try clear q12
               try clear q120
               try clear q121
               try clear q122
               try clear q124
               try clear q125
               try clear q126
               try clear q127
               obtain ⟨kq, x123_30, rfl, HA, HJ30, ⟨mc30, rfl⟩⟩ := hcut
               cases kq with
               | zero => exact absurd HA.out (by simp [gojsonnum_Scan.j6])
               | succ kj30 =>
                have H := HA.out
                clear HA
                simp only [gojsonnum_Scan.j6] at H
                by_cases c36 : x123_30 = true
                ·subst c36
                 have H1 : (if (wrap64 ((wrap64 (x4_16 + 1)) + 1)) = (l0.length : Int) then (some (wrap64 ((wrap64 (x4_16 + 1)) + 1), 3)) else (if 0 ≤ (wrap64 ((wrap64 (x4_16 + 1)) + 1)) then (if (wrap64 ((wrap64 (x4_16 + 1)) + 1)) < (l0.length : Int) then (if (rd l0 (wrap64 ((wrap64 (x4_16 + 1)) + 1))) < 48 then (some (wrap64 ((wrap64 (x4_16 + 1)) + 1), 3)) else (if 57 < (rd l0 (wrap64 ((wrap64 (x4_16 + 1)) + 1))) then (some (wrap64 ((wrap64 (x4_16 + 1)) + 1), 3)) else ((gojsonnum_ScanDigits.f kj30 l0 (wrap64 ((wrap64 ((wrap64 (x4_16 + 1)) + 1)) + 1))).bind fun t130 => (some (t130, 0))))) else (none)) else (none))) = some (r1, r2) := by rw [if_pos rfl] at H; exact H
                 clear H
                 have H := H1
                 clear H1
                 by_cases c37 : (wrap64 ((wrap64 (x4_16 + 1)) + 1)) = (l0.length : Int)
                 ·rw [if_pos c37] at H
                  have c37b0 : ((wrap64 ((wrap64 (x4_16 + 1)) + 1)) == (l0.length : Int)) = true := beq_iff_eq.mpr c37
                  have c37b1 : ((wrap64 ((wrap64 (x4_16 + 1)) + 1)) != (l0.length : Int)) = false := bne_eq_false_iff_eq.mpr c37
                  clear c37
                  simp only [Option.some.injEq, Prod.mk.injEq] at H
                  obtain ⟨rfl, rfl⟩ := H
                  go_wp2
                  go_ret2
                  exact ⟨by first | rfl | (simp; done) | (simp [*]; done) | (simp [wrap64]; done), by repeat (first | exact Drawn0.refl _ | apply Drawn0.step)⟩
                 ·rw [if_neg c37] at H
                  have c37b0 : ((wrap64 ((wrap64 (x4_16 + 1)) + 1)) == (l0.length : Int)) = false := beq_eq_false_iff_ne.mpr c37
                  have c37b1 : ((wrap64 ((wrap64 (x4_16 + 1)) + 1)) != (l0.length : Int)) = true := bne_iff_ne.mpr c37
                  obtain ⟨ji38, hji38⟩ : ∃ j_ : Int, (wrap64 ((wrap64 (x4_16 + 1)) + 1)) = j_ := ⟨_, rfl⟩
                  replace H : (if 0 ≤ (ji38) then (if (ji38) < (l0.length : Int) then (if (rd l0 (ji38)) < 48 then (some (ji38, 3)) else (if 57 < (rd l0 (ji38)) then (some (ji38, 3)) else ((gojsonnum_ScanDigits.f kj30 l0 (wrap64 ((ji38) + 1))).bind fun t130 => (some (t130, 0))))) else (none)) else (none)) = some (r1, r2) := by first | (rw [hji38] at H; exact H) | (simp only [hji38] at H ⊢; exact H)
                  (try rw [hji38] at c37b0)
                  (try rw [hji38] at c37b1)
                  have hji38w : (IntKind.i64.wrap ((wrap64 (x4_16 + 1)) + 1)) = ji38 := (i64_w _).trans hji38
                  by_cases c39 : 0 ≤ (ji38)
                  ·rw [if_pos c39] at H
                   have c39b0 : decide (0 ≤ (ji38)) = true := decide_eq_true c39
                   clear c39
                   by_cases c40 : (ji38) < (l0.length : Int)
                   ·rw [if_pos c40] at H
                    have c40b0 : decide ((ji38) < (l0.length : Int)) = true := decide_eq_true c40
                    clear c40
                    by_cases c41 : (rd l0 (ji38)) < 48
                    ·rw [if_pos c41] at H
                     have c41b0 : decide ((rd l0 (ji38)) < 48) = true := decide_eq_true c41
                     clear c41
                     simp only [Option.some.injEq, Prod.mk.injEq] at H
                     obtain ⟨rfl, rfl⟩ := H
                     have p128 : 0 ≤ ((ji38) : Int) := of_decide_eq_true (by first | (with_reducible assumption) | assumption)
                     have q128 : (ji38) < (l0.length : Int) := of_decide_eq_true (by first | (with_reducible assumption) | assumption)
                     obtain ⟨ad128, e128, hx128_0⟩ := Kd.at_int HR0.out (ji38) p128 q128
                     cases e128
                     replace p128 := eq_true p128
                     replace q128 := eq_true q128
                     go_wp2
                     go_ret2
                     exact ⟨by first | rfl | (simp; done) | (simp only [← hji38] <;> (first | rfl | simp)) | (simp [*]; done) | (simp [wrap64]; done), by repeat (first | exact Drawn0.refl _ | apply Drawn0.step)⟩
                    ·rw [if_neg c41] at H
                     have c41b0 : decide ((rd l0 (ji38)) < 48) = false := decide_eq_false c41
                     clear c41
                     by_cases c42 : 57 < (rd l0 (ji38))
                     ·rw [if_pos c42] at H
                      have c42b0 : decide (57 < (rd l0 (ji38))) = true := decide_eq_true c42
                      clear c42
                      simp only [Option.some.injEq, Prod.mk.injEq] at H
                      obtain ⟨rfl, rfl⟩ := H
                      have p128 : 0 ≤ ((ji38) : Int) := of_decide_eq_true (by first | (with_reducible assumption) | assumption)
                      have q128 : (ji38) < (l0.length : Int) := of_decide_eq_true (by first | (with_reducible assumption) | assumption)
                      obtain ⟨ad128, e128, hx128_0⟩ := Kd.at_int HR0.out (ji38) p128 q128
                      cases e128
                      replace p128 := eq_true p128
                      replace q128 := eq_true q128
                      have p129 : 0 ≤ ((ji38) : Int) := of_decide_eq_true (by first | (with_reducible assumption) | assumption)
                      have q129 : (ji38) < (l0.length : Int) := of_decide_eq_true (by first | (with_reducible assumption) | assumption)
                      obtain ⟨ad129, e129, hx129_0⟩ := Kd.at_int HR0.out (ji38) p129 q129
                      obtain rfl : ad128 = ad129 := (by injection e129)
                      replace p129 := eq_true p129
                      replace q129 := eq_true q129
                      go_wp2
                      go_ret2
                      exact ⟨by first | rfl | (simp; done) | (simp only [← hji38] <;> (first | rfl | simp)) | (simp [*]; done) | (simp [wrap64]; done), by repeat (first | exact Drawn0.refl _ | apply Drawn0.step)⟩
                     ·rw [if_neg c42] at H
                      have c42b0 : decide (57 < (rd l0 (ji38))) = false := decide_eq_false c42
                      clear c42
                      replace H := Option.bind_eq_some_iff.mp H
                      obtain ⟨t130, A430, H⟩ := H
                      replace H : (some (t130, 0)) = some (r1, r2) := H
                      have A43 := Aside0.mk A430
                      clear A430
                      simp only [Option.some.injEq, Prod.mk.injEq] at H
                      obtain ⟨rfl, rfl⟩ := H
                      have p128 : 0 ≤ ((ji38) : Int) := of_decide_eq_true (by first | (with_reducible assumption) | assumption)
                      have q128 : (ji38) < (l0.length : Int) := of_decide_eq_true (by first | (with_reducible assumption) | assumption)
                      obtain ⟨ad128, e128, hx128_0⟩ := Kd.at_int HR0.out (ji38) p128 q128
                      cases e128
                      replace p128 := eq_true p128
                      replace q128 := eq_true q128
                      have p129 : 0 ≤ ((ji38) : Int) := of_decide_eq_true (by first | (with_reducible assumption) | assumption)
                      have q129 : (ji38) < (l0.length : Int) := of_decide_eq_true (by first | (with_reducible assumption) | assumption)
                      obtain ⟨ad129, e129, hx129_0⟩ := Kd.at_int HR0.out (ji38) p129 q129
                      obtain rfl : ad128 = ad129 := (by injection e129)
                      replace p129 := eq_true p129
                      replace q129 := eq_true q129
                      go_wp2_with (first | ((with_reducible refine gate_callee (f := 85) rfl ?_); refine goesL_ (some 148) rfl rfl Tryd.func85 (by kernel_rfl) rfl #[.slice (some ad128) l0.length c0, .int .i64 (wrap64 ((ji38) + 1))] rfl (by (try simp only [List.map_toArray, List.map_cons, List.map_nil]); first | done | (simp only [hji38]; rfl) | rfl | (simp only [List.length_drop, List.length_take]; rfl)) ?_; (with_reducible refine (gojsonnum_ScanDigits.calls kj30 _ _ l0 (wrap64 ((ji38) + 1)) t130 _ ?side1 ?side2 ?side3 A43.out).mono ?_); (case side1 => repeat (first | exact HR0.out | (with_reducible refine Kd.C_alloc ?_ _) | (with_reducible refine Kd.C_drewN ?_ _) | (with_reducible refine Kd.C_drew ?_))); (case side2 => exact HC0.out); (case side3 => first | exact HG.out | exact Glob.drawn HG.out (by repeat (first | exact Drawn0.refl _ | apply Drawn0.step))); rintro e w' ⟨rfl, ⟨nd, rfl⟩⟩; refine ⟨_, rfl, ?_⟩))
                      go_ret2
                      exact ⟨by first | rfl | (simp; done) | (simp only [← hji38] <;> (first | rfl | simp)) | (simp [*]; done) | (simp [wrap64]; done), by repeat (first | exact Drawn0.refl _ | apply Drawn0.step)⟩
                   ·rw [if_neg c40] at H
                    exact absurd H (by simp)
                  ·rw [if_neg c39] at H
                   exact absurd H (by simp)
                ·replace c36 := Bool.eq_false_iff.mpr c36
                 subst c36
                 have H1 : (if (wrap64 (x4_16 + 1)) = (l0.length : Int) then (some ((wrap64 (x4_16 + 1)), 3)) else (if 0 ≤ (wrap64 (x4_16 + 1)) then (if (wrap64 (x4_16 + 1)) < (l0.length : Int) then (if (rd l0 (wrap64 (x4_16 + 1))) < 48 then (some ((wrap64 (x4_16 + 1)), 3)) else (if 57 < (rd l0 (wrap64 (x4_16 + 1))) then (some ((wrap64 (x4_16 + 1)), 3)) else ((gojsonnum_ScanDigits.f kj30 l0 (wrap64 ((wrap64 (x4_16 + 1)) + 1))).bind fun t133 => (some (t133, 0))))) else (none)) else (none))) = some (r1, r2) := by rw [if_neg (show ¬ (false = true) by decide)] at H; exact H
                 clear H
                 have H := H1
                 clear H1
                 by_cases c44 : (wrap64 (x4_16 + 1)) = (l0.length : Int)
                 ·rw [if_pos c44] at H
                  have c44b0 : ((wrap64 (x4_16 + 1)) == (l0.length : Int)) = true := beq_iff_eq.mpr c44
                  have c44b1 : ((wrap64 (x4_16 + 1)) != (l0.length : Int)) = false := bne_eq_false_iff_eq.mpr c44
                  clear c44
                  simp only [Option.some.injEq, Prod.mk.injEq] at H
                  obtain ⟨rfl, rfl⟩ := H
                  go_wp2
                  go_ret2
                  exact ⟨by first | rfl | (simp; done) | (simp [*]; done) | (simp [wrap64]; done), by repeat (first | exact Drawn0.refl _ | apply Drawn0.step)⟩
                 ·rw [if_neg c44] at H
                  have c44b0 : ((wrap64 (x4_16 + 1)) == (l0.length : Int)) = false := beq_eq_false_iff_ne.mpr c44
                  have c44b1 : ((wrap64 (x4_16 + 1)) != (l0.length : Int)) = true := bne_iff_ne.mpr c44
                  obtain ⟨ji45, hji45⟩ : ∃ j_ : Int, (wrap64 (x4_16 + 1)) = j_ := ⟨_, rfl⟩
                  replace H : (if 0 ≤ (ji45) then (if (ji45) < (l0.length : Int) then (if (rd l0 (ji45)) < 48 then (some ((ji45), 3)) else (if 57 < (rd l0 (ji45)) then (some ((ji45), 3)) else ((gojsonnum_ScanDigits.f kj30 l0 (wrap64 ((ji45) + 1))).bind fun t133 => (some (t133, 0))))) else (none)) else (none)) = some (r1, r2) := by first | (rw [hji45] at H; exact H) | (simp only [hji45] at H ⊢; exact H)
                  (try rw [hji45] at c44b0)
                  (try rw [hji45] at c44b1)
                  have hji45w : (IntKind.i64.wrap (x4_16 + 1)) = ji45 := (i64_w _).trans hji45
                  by_cases c46 : 0 ≤ (ji45)
                  ·rw [if_pos c46] at H
                   have c46b0 : decide (0 ≤ (ji45)) = true := decide_eq_true c46
                   clear c46
                   by_cases c47 : (ji45) < (l0.length : Int)
                   ·rw [if_pos c47] at H
                    have c47b0 : decide ((ji45) < (l0.length : Int)) = true := decide_eq_true c47
                    clear c47
                    by_cases c48 : (rd l0 (ji45)) < 48
                    ·rw [if_pos c48] at H
                     have c48b0 : decide ((rd l0 (ji45)) < 48) = true := decide_eq_true c48
                     clear c48
                     simp only [Option.some.injEq, Prod.mk.injEq] at H
                     obtain ⟨rfl, rfl⟩ := H
                     have p131 : 0 ≤ ((ji45) : Int) := of_decide_eq_true (by first | (with_reducible assumption) | assumption)
                     have q131 : (ji45) < (l0.length : Int) := of_decide_eq_true (by first | (with_reducible assumption) | assumption)
                     obtain ⟨ad131, e131, hx131_0⟩ := Kd.at_int HR0.out (ji45) p131 q131
                     cases e131
                     replace p131 := eq_true p131
                     replace q131 := eq_true q131
                     go_wp2
                     go_ret2
                     exact ⟨by first | rfl | (simp; done) | (simp only [← hji45] <;> (first | rfl | simp)) | (simp [*]; done) | (simp [wrap64]; done), by repeat (first | exact Drawn0.refl _ | apply Drawn0.step)⟩
                    ·rw [if_neg c48] at H
                     have c48b0 : decide ((rd l0 (ji45)) < 48) = false := decide_eq_false c48
                     clear c48
                     by_cases c49 : 57 < (rd l0 (ji45))
                     ·rw [if_pos c49] at H
                      have c49b0 : decide (57 < (rd l0 (ji45))) = true := decide_eq_true c49
                      clear c49
                      simp only [Option.some.injEq, Prod.mk.injEq] at H
                      obtain ⟨rfl, rfl⟩ := H
                      have p131 : 0 ≤ ((ji45) : Int) := of_decide_eq_true (by first | (with_reducible assumption) | assumption)
                      have q131 : (ji45) < (l0.length : Int) := of_decide_eq_true (by first | (with_reducible assumption) | assumption)
                      obtain ⟨ad131, e131, hx131_0⟩ := Kd.at_int HR0.out (ji45) p131 q131
                      cases e131
                      replace p131 := eq_true p131
                      replace q131 := eq_true q131
                      have p132 : 0 ≤ ((ji45) : Int) := of_decide_eq_true (by first | (with_reducible assumption) | assumption)
                      have q132 : (ji45) < (l0.length : Int) := of_decide_eq_true (by first | (with_reducible assumption) | assumption)
                      obtain ⟨ad132, e132, hx132_0⟩ := Kd.at_int HR0.out (ji45) p132 q132
                      obtain rfl : ad131 = ad132 := (by injection e132)
                      replace p132 := eq_true p132
                      replace q132 := eq_true q132
                      go_wp2
                      go_ret2
                      exact ⟨by first | rfl | (simp; done) | (simp only [← hji45] <;> (first | rfl | simp)) | (simp [*]; done) | (simp [wrap64]; done), by repeat (first | exact Drawn0.refl _ | apply Drawn0.step)⟩
                     ·rw [if_neg c49] at H
                      have c49b0 : decide (57 < (rd l0 (ji45))) = false := decide_eq_false c49
                      clear c49
                      replace H := Option.bind_eq_some_iff.mp H
                      obtain ⟨t133, A500, H⟩ := H
                      replace H : (some (t133, 0)) = some (r1, r2) := H
                      have A50 := Aside0.mk A500
                      clear A500
                      simp only [Option.some.injEq, Prod.mk.injEq] at H
                      obtain ⟨rfl, rfl⟩ := H
                      have p131 : 0 ≤ ((ji45) : Int) := of_decide_eq_true (by first | (with_reducible assumption) | assumption)
                      have q131 : (ji45) < (l0.length : Int) := of_decide_eq_true (by first | (with_reducible assumption) | assumption)
                      obtain ⟨ad131, e131, hx131_0⟩ := Kd.at_int HR0.out (ji45) p131 q131
                      cases e131
                      replace p131 := eq_true p131
                      replace q131 := eq_true q131
                      have p132 : 0 ≤ ((ji45) : Int) := of_decide_eq_true (by first | (with_reducible assumption) | assumption)
                      have q132 : (ji45) < (l0.length : Int) := of_decide_eq_true (by first | (with_reducible assumption) | assumption)
                      obtain ⟨ad132, e132, hx132_0⟩ := Kd.at_int HR0.out (ji45) p132 q132
                      obtain rfl : ad131 = ad132 := (by injection e132)
                      replace p132 := eq_true p132
                      replace q132 := eq_true q132
                      go_wp2_with (first | ((with_reducible refine gate_callee (f := 85) rfl ?_); refine goesL_ (some 148) rfl rfl Tryd.func85 (by kernel_rfl) rfl #[.slice (some ad131) l0.length c0, .int .i64 (wrap64 ((ji45) + 1))] rfl (by (try simp only [List.map_toArray, List.map_cons, List.map_nil]); first | done | (simp only [hji45]; rfl) | rfl | (simp only [List.length_drop, List.length_take]; rfl)) ?_; (with_reducible refine (gojsonnum_ScanDigits.calls kj30 _ _ l0 (wrap64 ((ji45) + 1)) t133 _ ?side1 ?side2 ?side3 A50.out).mono ?_); (case side1 => repeat (first | exact HR0.out | (with_reducible refine Kd.C_alloc ?_ _) | (with_reducible refine Kd.C_drewN ?_ _) | (with_reducible refine Kd.C_drew ?_))); (case side2 => exact HC0.out); (case side3 => first | exact HG.out | exact Glob.drawn HG.out (by repeat (first | exact Drawn0.refl _ | apply Drawn0.step))); rintro e w' ⟨rfl, ⟨nd, rfl⟩⟩; refine ⟨_, rfl, ?_⟩))
                      go_ret2
                      exact ⟨by first | rfl | (simp; done) | (simp only [← hji45] <;> (first | rfl | simp)) | (simp [*]; done) | (simp [wrap64]; done), by repeat (first | exact Drawn0.refl _ | apply Drawn0.step)⟩
                   ·rw [if_neg c47] at H
                    exact absurd H (by simp)
                  ·rw [if_neg c46] at H
                   exact absurd H (by simp)
             ·replace c30 := Bool.eq_false_iff.mpr c30
              subst c30
              have H1 : (some (x4_16, 0)) = some (r1, r2) := by rw [if_neg (show ¬ (false = true) by decide)] at H; exact H
              clear H
              have H := H1
              clear H1
              simp only [Option.some.injEq, Prod.mk.injEq] at H
              obtain ⟨rfl, rfl⟩ := H
              go_wp2
              go_ret2
              exact ⟨by first | rfl | (simp; done) | (simp [*]; done) | (simp [wrap64]; done), by repeat (first | exact Drawn0.refl _ | apply Drawn0.step)⟩

end Go.Proofs.YtbikiibpjdiaaaaDoor.QN
