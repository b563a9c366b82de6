-- Written by a program of this session (wip/tools/myprint.py) out of Lean's own print of the translation.
import Derived.Test.YtoigokgechcaiaaDoorQNm0
import Derived.Test.YtoigokgechcaiaaDoorQNm1
namespace Go.Proofs.YtoigokgechcaiaaDoor.QNm
open Go.RowKit Go.Proofs.YtoigokgechcaiaaDoorW.PrintWords Go.Proofs.YtoigokgechcaiaaDoorW.PrintLast Go.Proofs.YtoigokgechcaiaaDoorW.PrintMore
attribute [local go_sem] max2_int min2_int max_two min_two max_three min_three max_four min_four   -- for this text's walks alone
open Go.Proofs.YtoigokgechcaiaaDoor.Tab
set_option linter.unusedVariables false
set_option linter.unusedSimpArgs false

/-! ### gojsonnum_End: function 19 -/
mutual
def gojsonnum_End.j0 : Nat → List Int → Int → Bool → Option (Int)
  | 0, _, _, _ => none
  | k + 1, x0, x3, x14 => if x14 = true then (gojsonnum_End.j1 k x0 (wrap64 (x3 + 1))) else (gojsonnum_End.j1 k x0 x3)
def gojsonnum_End.j1 : Nat → List Int → Int → Option (Int)
  | 0, _, _ => none
  | k + 1, x0, x3 => if x3 = (x0.length : Int) then (some (-1)) else (if 0 ≤ x3 then (if x3 < (x0.length : Int) then (if (rd x0 x3) = 48 then (gojsonnum_End.j2 k x0 (wrap64 (x3 + 1))) else (if 49 ≤ (rd x0 x3) then (if (rd x0 x3) ≤ 57 then ((gojsonnum_ScanDigits.f k x0 (wrap64 (x3 + 1))).bind fun t161 => (gojsonnum_End.j2 k x0 t161)) else (some (-1))) else (some (-1)))) else (none)) else (none))
def gojsonnum_End.j2 : Nat → List Int → Int → Option (Int)
  | 0, _, _ => none
  | k + 1, x0, x3 => if x3 < (x0.length : Int) then (if 0 ≤ x3 then (gojsonnum_End.j3 k x0 x3 ((rd x0 x3) == 46)) else (none)) else (gojsonnum_End.j3 k x0 x3 false)
def gojsonnum_End.j3 : Nat → List Int → Int → Bool → Option (Int)
  | 0, _, _, _ => none
  | k + 1, x0, x3, x57 => if x57 = true then (if (wrap64 (x3 + 1)) = (x0.length : Int) then (some (-1)) else (if 0 ≤ (wrap64 (x3 + 1)) then (if (wrap64 (x3 + 1)) < (x0.length : Int) then (if (rd x0 (wrap64 (x3 + 1))) < 48 then (some (-1)) else (if 57 < (rd x0 (wrap64 (x3 + 1))) then (some (-1)) else ((gojsonnum_ScanDigits.f k x0 (wrap64 ((wrap64 (x3 + 1)) + 1))).bind fun t165 => (gojsonnum_End.j4 k x0 t165)))) else (none)) else (none))) else (gojsonnum_End.j4 k x0 x3)
def gojsonnum_End.j4 : Nat → List Int → Int → Option (Int)
  | 0, _, _ => none
  | k + 1, x0, x3 => if x3 < (x0.length : Int) then (if 0 ≤ x3 then (if (rd x0 x3) = 101 then (gojsonnum_End.j5 k x0 x3 true) else (gojsonnum_End.j5 k x0 x3 ((rd x0 x3) == 69))) else (none)) else (gojsonnum_End.j5 k x0 x3 false)
def gojsonnum_End.j5 : Nat → List Int → Int → Bool → Option (Int)
  | 0, _, _, _ => none
  | k + 1, x0, x3, x99 => if x99 = true then (if (wrap64 (x3 + 1)) < (x0.length : Int) then (if 0 ≤ (wrap64 (x3 + 1)) then (if (rd x0 (wrap64 (x3 + 1))) = 43 then (gojsonnum_End.j6 k x0 (wrap64 (x3 + 1)) true) else (gojsonnum_End.j6 k x0 (wrap64 (x3 + 1)) ((rd x0 (wrap64 (x3 + 1))) == 45))) else (none)) else (gojsonnum_End.j6 k x0 (wrap64 (x3 + 1)) false)) else (if x3 = (x0.length : Int) then (some (-1)) else (some x3))
def gojsonnum_End.j6 : Nat → List Int → Int → Bool → Option (Int)
  | 0, _, _, _ => none
  | k + 1, x0, x3, x119 => if x119 = true then (gojsonnum_End.j7 k x0 (wrap64 (x3 + 1))) else (gojsonnum_End.j7 k x0 x3)
def gojsonnum_End.j7 : Nat → List Int → Int → Option (Int)
  | 0, _, _ => none
  | k + 1, x0, x3 => if x3 = (x0.length : Int) then (gojsonnum_End.j8 k x0 x3 true) else (if 0 ≤ x3 then (if x3 < (x0.length : Int) then (if (rd x0 x3) < 48 then (gojsonnum_End.j8 k x0 x3 true) else (gojsonnum_End.j8 k x0 x3 (decide (57 < (rd x0 x3))))) else (none)) else (none))
def gojsonnum_End.j8 : Nat → List Int → Int → Bool → Option (Int)
  | 0, _, _, _ => none
  | k + 1, x0, x3, x139 => if x139 = true then (some (-1)) else ((gojsonnum_ScanDigits.f k x0 (wrap64 (x3 + 1))).bind fun t172 => (if t172 = (x0.length : Int) then (some (-1)) else (some t172)))
end
def gojsonnum_End.f (k : Nat) (l0 : List Int) : Option (Int) := if 0 < (l0.length : Int) then (gojsonnum_End.j0 k l0 0 ((rd l0 0) == 45)) else (gojsonnum_End.j0 k l0 0 false)
theorem gojsonnum_End.mono_l : ∀ k, (∀ y0 y1 y2, LeO (gojsonnum_End.j0 k y0 y1 y2) (gojsonnum_End.j0 (k + 1) y0 y1 y2)) ∧ (∀ y0 y1, LeO (gojsonnum_End.j1 k y0 y1) (gojsonnum_End.j1 (k + 1) y0 y1)) ∧ (∀ y0 y1, LeO (gojsonnum_End.j2 k y0 y1) (gojsonnum_End.j2 (k + 1) y0 y1)) ∧ (∀ y0 y1 y2, LeO (gojsonnum_End.j3 k y0 y1 y2) (gojsonnum_End.j3 (k + 1) y0 y1 y2)) ∧ (∀ y0 y1, LeO (gojsonnum_End.j4 k y0 y1) (gojsonnum_End.j4 (k + 1) y0 y1)) ∧ (∀ y0 y1 y2, LeO (gojsonnum_End.j5 k y0 y1 y2) (gojsonnum_End.j5 (k + 1) y0 y1 y2)) ∧ (∀ y0 y1 y2, LeO (gojsonnum_End.j6 k y0 y1 y2) (gojsonnum_End.j6 (k + 1) y0 y1 y2)) ∧ (∀ y0 y1, LeO (gojsonnum_End.j7 k y0 y1) (gojsonnum_End.j7 (k + 1) y0 y1)) ∧ (∀ y0 y1 y2, LeO (gojsonnum_End.j8 k y0 y1 y2) (gojsonnum_End.j8 (k + 1) y0 y1 y2))
  | 0 => ⟨fun _ _ _ r h => by simp [gojsonnum_End.j0] at h, fun _ _ r h => by simp [gojsonnum_End.j1] at h, fun _ _ r h => by simp [gojsonnum_End.j2] at h, fun _ _ _ r h => by simp [gojsonnum_End.j3] at h, fun _ _ r h => by simp [gojsonnum_End.j4] at h, fun _ _ _ r h => by simp [gojsonnum_End.j5] at h, fun _ _ _ r h => by simp [gojsonnum_End.j6] at h, fun _ _ r h => by simp [gojsonnum_End.j7] at h, fun _ _ _ r h => by simp [gojsonnum_End.j8] at h⟩
  | k + 1 => by
    obtain ⟨ih0, ih1, ih2, ih3, ih4, ih5, ih6, ih7, ih8⟩ := gojsonnum_End.mono_l k
    refine ⟨?_, ?_, ?_, ?_, ?_, ?_, ?_, ?_, ?_⟩
    · intro y0 y1 y2
      unfold gojsonnum_End.j0
      repeat' first
      | (with_reducible exact ih0 _ _ _)
      | (with_reducible exact ih1 _ _)
      | (with_reducible exact ih2 _ _)
      | (with_reducible exact ih3 _ _ _)
      | (with_reducible exact ih4 _ _)
      | (with_reducible exact ih5 _ _ _)
      | (with_reducible exact ih6 _ _ _)
      | (with_reducible exact ih7 _ _)
      | (with_reducible exact ih8 _ _ _)
      | (with_reducible exact gojsonnum_ScanDigits.mono _ _ _)
      | (with_reducible exact LeO.refl _)
      | (with_reducible exact LeO.none _)
      | (with_reducible refine LeO.ite ?_ ?_)
      | (with_reducible refine LeO.bind ?_ (fun _ => ?_))
      | exact ih0 _ _ _
      | exact ih1 _ _
      | exact ih2 _ _
      | exact ih3 _ _ _
      | exact ih4 _ _
      | exact ih5 _ _ _
      | exact ih6 _ _ _
      | exact ih7 _ _
      | exact ih8 _ _ _
      | exact gojsonnum_ScanDigits.mono _ _ _
      | exact LeO.none _
      | refine LeO.ite ?_ ?_
      | refine LeO.bind ?_ (fun _ => ?_)
    · intro y0 y1
      unfold gojsonnum_End.j1
      repeat' first
      | (with_reducible exact ih0 _ _ _)
      | (with_reducible exact ih1 _ _)
      | (with_reducible exact ih2 _ _)
      | (with_reducible exact ih3 _ _ _)
      | (with_reducible exact ih4 _ _)
      | (with_reducible exact ih5 _ _ _)
      | (with_reducible exact ih6 _ _ _)
      | (with_reducible exact ih7 _ _)
      | (with_reducible exact ih8 _ _ _)
      | (with_reducible exact gojsonnum_ScanDigits.mono _ _ _)
      | (with_reducible exact LeO.refl _)
      | (with_reducible exact LeO.none _)
      | (with_reducible refine LeO.ite ?_ ?_)
      | (with_reducible refine LeO.bind ?_ (fun _ => ?_))
      | exact ih0 _ _ _
      | exact ih1 _ _
      | exact ih2 _ _
      | exact ih3 _ _ _
      | exact ih4 _ _
      | exact ih5 _ _ _
      | exact ih6 _ _ _
      | exact ih7 _ _
      | exact ih8 _ _ _
      | exact gojsonnum_ScanDigits.mono _ _ _
      | exact LeO.none _
      | refine LeO.ite ?_ ?_
      | refine LeO.bind ?_ (fun _ => ?_)
    · intro y0 y1
      unfold gojsonnum_End.j2
      repeat' first
      | (with_reducible exact ih0 _ _ _)
      | (with_reducible exact ih1 _ _)
      | (with_reducible exact ih2 _ _)
      | (with_reducible exact ih3 _ _ _)
      | (with_reducible exact ih4 _ _)
      | (with_reducible exact ih5 _ _ _)
      | (with_reducible exact ih6 _ _ _)
      | (with_reducible exact ih7 _ _)
      | (with_reducible exact ih8 _ _ _)
      | (with_reducible exact gojsonnum_ScanDigits.mono _ _ _)
      | (with_reducible exact LeO.refl _)
      | (with_reducible exact LeO.none _)
      | (with_reducible refine LeO.ite ?_ ?_)
      | (with_reducible refine LeO.bind ?_ (fun _ => ?_))
      | exact ih0 _ _ _
      | exact ih1 _ _
      | exact ih2 _ _
      | exact ih3 _ _ _
      | exact ih4 _ _
      | exact ih5 _ _ _
      | exact ih6 _ _ _
      | exact ih7 _ _
      | exact ih8 _ _ _
      | exact gojsonnum_ScanDigits.mono _ _ _
      | exact LeO.none _
      | refine LeO.ite ?_ ?_
      | refine LeO.bind ?_ (fun _ => ?_)
    · intro y0 y1 y2
      unfold gojsonnum_End.j3
      repeat' first
      | (with_reducible exact ih0 _ _ _)
      | (with_reducible exact ih1 _ _)
      | (with_reducible exact ih2 _ _)
      | (with_reducible exact ih3 _ _ _)
      | (with_reducible exact ih4 _ _)
      | (with_reducible exact ih5 _ _ _)
      | (with_reducible exact ih6 _ _ _)
      | (with_reducible exact ih7 _ _)
      | (with_reducible exact ih8 _ _ _)
      | (with_reducible exact gojsonnum_ScanDigits.mono _ _ _)
      | (with_reducible exact LeO.refl _)
      | (with_reducible exact LeO.none _)
      | (with_reducible refine LeO.ite ?_ ?_)
      | (with_reducible refine LeO.bind ?_ (fun _ => ?_))
      | exact ih0 _ _ _
      | exact ih1 _ _
      | exact ih2 _ _
      | exact ih3 _ _ _
      | exact ih4 _ _
      | exact ih5 _ _ _
      | exact ih6 _ _ _
      | exact ih7 _ _
      | exact ih8 _ _ _
      | exact gojsonnum_ScanDigits.mono _ _ _
      | exact LeO.none _
      | refine LeO.ite ?_ ?_
      | refine LeO.bind ?_ (fun _ => ?_)
    · intro y0 y1
      unfold gojsonnum_End.j4
      repeat' first
      | (with_reducible exact ih0 _ _ _)
      | (with_reducible exact ih1 _ _)
      | (with_reducible exact ih2 _ _)
      | (with_reducible exact ih3 _ _ _)
      | (with_reducible exact ih4 _ _)
      | (with_reducible exact ih5 _ _ _)
      | (with_reducible exact ih6 _ _ _)
      | (with_reducible exact ih7 _ _)
      | (with_reducible exact ih8 _ _ _)
      | (with_reducible exact gojsonnum_ScanDigits.mono _ _ _)
      | (with_reducible exact LeO.refl _)
      | (with_reducible exact LeO.none _)
      | (with_reducible refine LeO.ite ?_ ?_)
      | (with_reducible refine LeO.bind ?_ (fun _ => ?_))
      | exact ih0 _ _ _
      | exact ih1 _ _
      | exact ih2 _ _
      | exact ih3 _ _ _
      | exact ih4 _ _
      | exact ih5 _ _ _
      | exact ih6 _ _ _
      | exact ih7 _ _
      | exact ih8 _ _ _
      | exact gojsonnum_ScanDigits.mono _ _ _
      | exact LeO.none _
      | refine LeO.ite ?_ ?_
      | refine LeO.bind ?_ (fun _ => ?_)
    · intro y0 y1 y2
      unfold gojsonnum_End.j5
      repeat' first
      | (with_reducible exact ih0 _ _ _)
      | (with_reducible exact ih1 _ _)
      | (with_reducible exact ih2 _ _)
      | (with_reducible exact ih3 _ _ _)
      | (with_reducible exact ih4 _ _)
      | (with_reducible exact ih5 _ _ _)
      | (with_reducible exact ih6 _ _ _)
      | (with_reducible exact ih7 _ _)
      | (with_reducible exact ih8 _ _ _)
      | (with_reducible exact gojsonnum_ScanDigits.mono _ _ _)
      | (with_reducible exact LeO.refl _)
      | (with_reducible exact LeO.none _)
      | (with_reducible refine LeO.ite ?_ ?_)
      | (with_reducible refine LeO.bind ?_ (fun _ => ?_))
      | exact ih0 _ _ _
      | exact ih1 _ _
      | exact ih2 _ _
      | exact ih3 _ _ _
      | exact ih4 _ _
      | exact ih5 _ _ _
      | exact ih6 _ _ _
      | exact ih7 _ _
      | exact ih8 _ _ _
      | exact gojsonnum_ScanDigits.mono _ _ _
      | exact LeO.none _
      | refine LeO.ite ?_ ?_
      | refine LeO.bind ?_ (fun _ => ?_)
    · intro y0 y1 y2
      unfold gojsonnum_End.j6
      repeat' first
      | (with_reducible exact ih0 _ _ _)
      | (with_reducible exact ih1 _ _)
      | (with_reducible exact ih2 _ _)
      | (with_reducible exact ih3 _ _ _)
      | (with_reducible exact ih4 _ _)
      | (with_reducible exact ih5 _ _ _)
      | (with_reducible exact ih6 _ _ _)
      | (with_reducible exact ih7 _ _)
      | (with_reducible exact ih8 _ _ _)
      | (with_reducible exact gojsonnum_ScanDigits.mono _ _ _)
      | (with_reducible exact LeO.refl _)
      | (with_reducible exact LeO.none _)
      | (with_reducible refine LeO.ite ?_ ?_)
      | (with_reducible refine LeO.bind ?_ (fun _ => ?_))
      | exact ih0 _ _ _
      | exact ih1 _ _
      | exact ih2 _ _
      | exact ih3 _ _ _
      | exact ih4 _ _
      | exact ih5 _ _ _
      | exact ih6 _ _ _
      | exact ih7 _ _
      | exact ih8 _ _ _
      | exact gojsonnum_ScanDigits.mono _ _ _
      | exact LeO.none _
      | refine LeO.ite ?_ ?_
      | refine LeO.bind ?_ (fun _ => ?_)
    · intro y0 y1
      unfold gojsonnum_End.j7
      repeat' first
      | (with_reducible exact ih0 _ _ _)
      | (with_reducible exact ih1 _ _)
      | (with_reducible exact ih2 _ _)
      | (with_reducible exact ih3 _ _ _)
      | (with_reducible exact ih4 _ _)
      | (with_reducible exact ih5 _ _ _)
      | (with_reducible exact ih6 _ _ _)
      | (with_reducible exact ih7 _ _)
      | (with_reducible exact ih8 _ _ _)
      | (with_reducible exact gojsonnum_ScanDigits.mono _ _ _)
      | (with_reducible exact LeO.refl _)
      | (with_reducible exact LeO.none _)
      | (with_reducible refine LeO.ite ?_ ?_)
      | (with_reducible refine LeO.bind ?_ (fun _ => ?_))
      | exact ih0 _ _ _
      | exact ih1 _ _
      | exact ih2 _ _
      | exact ih3 _ _ _
      | exact ih4 _ _
      | exact ih5 _ _ _
      | exact ih6 _ _ _
      | exact ih7 _ _
      | exact ih8 _ _ _
      | exact gojsonnum_ScanDigits.mono _ _ _
      | exact LeO.none _
      | refine LeO.ite ?_ ?_
      | refine LeO.bind ?_ (fun _ => ?_)
    · intro y0 y1 y2
      unfold gojsonnum_End.j8
      repeat' first
      | (with_reducible exact ih0 _ _ _)
      | (with_reducible exact ih1 _ _)
      | (with_reducible exact ih2 _ _)
      | (with_reducible exact ih3 _ _ _)
      | (with_reducible exact ih4 _ _)
      | (with_reducible exact ih5 _ _ _)
      | (with_reducible exact ih6 _ _ _)
      | (with_reducible exact ih7 _ _)
      | (with_reducible exact ih8 _ _ _)
      | (with_reducible exact gojsonnum_ScanDigits.mono _ _ _)
      | (with_reducible exact LeO.refl _)
      | (with_reducible exact LeO.none _)
      | (with_reducible refine LeO.ite ?_ ?_)
      | (with_reducible refine LeO.bind ?_ (fun _ => ?_))
      | exact ih0 _ _ _
      | exact ih1 _ _
      | exact ih2 _ _
      | exact ih3 _ _ _
      | exact ih4 _ _
      | exact ih5 _ _ _
      | exact ih6 _ _ _
      | exact ih7 _ _
      | exact ih8 _ _ _
      | exact gojsonnum_ScanDigits.mono _ _ _
      | exact LeO.none _
      | refine LeO.ite ?_ ?_
      | refine LeO.bind ?_ (fun _ => ?_)
theorem gojsonnum_End.mono : ∀ a0 k, LeO (gojsonnum_End.f k a0) (gojsonnum_End.f (k + 1) a0) := by
  intro a0 k
  obtain ⟨ih0, ih1, ih2, ih3, ih4, ih5, ih6, ih7, ih8⟩ := gojsonnum_End.mono_l k
  unfold gojsonnum_End.f
  repeat' first
      | (with_reducible exact ih0 _ _ _)
      | (with_reducible exact ih1 _ _)
      | (with_reducible exact ih2 _ _)
      | (with_reducible exact ih3 _ _ _)
      | (with_reducible exact ih4 _ _)
      | (with_reducible exact ih5 _ _ _)
      | (with_reducible exact ih6 _ _ _)
      | (with_reducible exact ih7 _ _)
      | (with_reducible exact ih8 _ _ _)
      | (with_reducible exact gojsonnum_ScanDigits.mono _ _ _)
      | (with_reducible exact LeO.refl _)
      | (with_reducible exact LeO.none _)
      | (with_reducible refine LeO.ite ?_ ?_)
      | (with_reducible refine LeO.bind ?_ (fun _ => ?_))
      | exact ih0 _ _ _
      | exact ih1 _ _
      | exact ih2 _ _
      | exact ih3 _ _ _
      | exact ih4 _ _
      | exact ih5 _ _ _
      | exact ih6 _ _ _
      | exact ih7 _ _
      | exact ih8 _ _ _
      | exact gojsonnum_ScanDigits.mono _ _ _
      | exact LeO.none _
      | refine LeO.ite ?_ ?_
      | refine LeO.bind ?_ (fun _ => ?_)
set_option maxHeartbeats 8000000 in
set_option maxRecDepth 100000 in
theorem gojsonnum_End.calls (k : Nat) (A0 : Option Addr) (c0 : Nat) (l0 : List Int) (r : Int) (w : World) (hr0 : Kd.C (Kd.int .u8) w A0 l0.length l0) (hc0 : l0.length ≤ c0) (hG : Glob w) (h : gojsonnum_End.f k l0 = some r) :
    Calls Tryd.prog 19 #[.slice A0 l0.length c0] w fun e w' => e = .returned (.int .i64 r) ∧ Drawn0 w w' := by
  have HG := Aside0.mk hG
  clear hG
  have HR0 := Aside0.mk hr0
  have HC0 := Aside0.mk hc0
  clear hr0 hc0
  have H : (if 0 < (l0.length : Int) then (gojsonnum_End.j0 k l0 0 ((rd l0 0) == 45)) else (gojsonnum_End.j0 k l0 0 false)) = some r := h
  clear h
  have HC2 := Aside0.mk H
  clear H
  go_enter Tryd.func19, Tryd.ntmps19
  go_upto_region 2 with (fail)
  go_cut [14] (fun v14 wc => ∃ (kq : Nat) (x14_1 : Bool), v14 = .bool x14_1 ∧ Aside0 (gojsonnum_End.j0 kq l0 0 x14_1 = some r) ∧ Aside0 (kq ≤ k) ∧ Drawn0 w wc)
  case first =>
    have H := HC2.out
    clear HC2
    by_cases c3 : 0 < (l0.length : Int)
    · rw [if_pos c3] at H
      have c3b0 : decide (0 < (l0.length : Int)) = true := decide_eq_true c3
      have c3b1 : decide (0 < l0.length) = true := decide_eq_true (by omega)
      clear c3
      (first | rw [c3b0] | (simp only [i64_w, i32_w]; rw [c3b0]) | skip)
      have H' := Aside0.mk H
      clear H
      have p157 : 0 ≤ (0 : Int) := (by omega)
      have q157 : 0 < (l0.length : Int) := of_decide_eq_true (by first | (with_reducible assumption) | assumption)
      obtain ⟨ad157, e157, hx157_0⟩ := Kd.at_int HR0.out 0 p157 q157
      cases e157
      have qi157 : (0 < l0.length) = True := eq_true (by omega)
      (try rw [show ((0 : Int)).toNat = 0 from rfl] at hx157_0)
      (try rw [Addr.add_zero'] at hx157_0)
      replace p157 := eq_true p157
      replace q157 := eq_true q157
      go_wp2
      go_meet
      case rel => exact ⟨_, (((rd l0 0) == 45)), (by first | rfl | (simp; done) | (simp [*]; done) | (simp [wrap64]; done)), H', ⟨by first | omega | exact Nat.le_refl _⟩, by repeat (first | exact Drawn0.refl _ | apply Drawn0.step)⟩
    · rw [if_neg c3] at H
      have c3b0 : decide (0 < (l0.length : Int)) = false := decide_eq_false c3
      have c3b1 : decide (0 < l0.length) = false := decide_eq_false (by omega)
      clear c3
      (first | rw [c3b0] | (simp only [i64_w, i32_w]; rw [c3b0]) | skip)
      have H' := Aside0.mk H
      clear H
      go_wp2
      go_meet
      case rel => exact ⟨_, (false), (by first | rfl | (simp; done) | (simp [*]; done) | (simp [wrap64]; done)), H', ⟨by first | omega | exact Nat.le_refl _⟩, by repeat (first | exact Drawn0.refl _ | apply Drawn0.step)⟩
  case rest =>
    clear HC2
    try clear c1
    try clear p1
    try clear q1
    try clear hx1
    try clear qi1
    try clear p2
    try clear c3
    try clear c3b0
    try clear c3b1
    try clear hx157_0
    try clear p157
    try clear q157
    obtain ⟨kq, x14_1, rfl, HA, HJ1, ⟨mc1, rfl⟩⟩ := hcut
    cases kq with
    | zero => exact absurd HA.out (by simp [gojsonnum_End.j0])
    | succ kj1 =>
      have H := HA.out
      clear HA
      simp only [gojsonnum_End.j0] at H
      have HC4 := Aside0.mk H
      clear H
      go_upto_if 14 with (fail)
      go_cut [3] (fun v3 wc => ∃ (kq : Nat) (x3_3 : Int), v3 = .int .i64 x3_3 ∧ Aside0 (gojsonnum_End.j1 kq l0 x3_3 = some r) ∧ Aside0 (kq ≤ kj1) ∧ Drawn0 w wc)
      case first =>
        have H := HC4.out
        clear HC4
        by_cases c5 : x14_1 = true
        · subst c5
          have H1 : (gojsonnum_End.j1 kj1 l0 (wrap64 (0 + 1))) = some r := by rw [if_pos rfl] at H; exact H
          clear H
          have H := H1
          clear H1
          have H' := Aside0.mk H
          clear H
          go_wp2
          go_meet
          case rel => exact ⟨_, (wrap64 (0 + 1)), (by first | rfl | (simp; done) | (simp [*]; done) | (simp [wrap64]; done)), H', ⟨by have := HJ1.out; first | omega | exact Nat.le_refl _⟩, by repeat (first | exact Drawn0.refl _ | apply Drawn0.step)⟩
        · replace c5 := Bool.eq_false_iff.mpr c5
          subst c5
          have H1 : (gojsonnum_End.j1 kj1 l0 0) = some r := by rw [if_neg (show ¬ (false = true) by decide)] at H; exact H
          clear H
          have H := H1
          clear H1
          have H' := Aside0.mk H
          clear H
          go_wp2
          go_meet
          case rel => exact ⟨_, (0), (by first | rfl | (simp; done) | (simp [*]; done) | (simp [wrap64]; done)), H', ⟨by have := HJ1.out; first | omega | exact Nat.le_refl _⟩, by repeat (first | exact Drawn0.refl _ | apply Drawn0.step)⟩
      case rest =>
        clear HC4
        try clear c1
        try clear p1
        try clear q1
        try clear hx1
        try clear qi1
        try clear p2
        try clear c3
        try clear c3b0
        try clear c3b1
        try clear c5
        try clear hx157_0
        try clear p1
        try clear p157
        try clear p2
        try clear q1
        try clear q157
        obtain ⟨kq, x3_3, rfl, HA, HJ3, ⟨mc3, rfl⟩⟩ := hcut
        cases kq with
        | zero => exact absurd HA.out (by simp [gojsonnum_End.j1])
        | succ kj3 =>
          have H := HA.out
          clear HA
          simp only [gojsonnum_End.j1] at H
          have HC6 := Aside0.mk H
          clear H
          go_upto_block 0 with (fail)
          go_cut [3] (fun v3 wc => ∃ (kq : Nat) (x3_5 : Int), v3 = .int .i64 x3_5 ∧ Aside0 (gojsonnum_End.j2 kq l0 x3_5 = some r) ∧ Aside0 (kq ≤ kj3) ∧ Drawn0 w wc)
          case first =>
            have H := HC6.out
            clear HC6
            by_cases c7 : x3_3 = (l0.length : Int)
            · rw [if_pos c7] at H
              have c7b0 : (x3_3 == (l0.length : Int)) = true := beq_iff_eq.mpr c7
              have c7b1 : (x3_3 != (l0.length : Int)) = false := bne_eq_false_iff_eq.mpr c7
              clear c7
              (first | rw [c7b0] | (simp only [i64_w, i32_w]; rw [c7b0]) | skip)
              obtain rfl := Option.some.inj H
              go_wp2
              go_ret
              exact ⟨by first | rfl | (simp; done) | (simp [*]; done) | (simp [wrap64]; done), by repeat (first | exact Drawn0.refl _ | apply Drawn0.step)⟩
            · rw [if_neg c7] at H
              have c7b0 : (x3_3 == (l0.length : Int)) = false := beq_eq_false_iff_ne.mpr c7
              have c7b1 : (x3_3 != (l0.length : Int)) = true := bne_iff_ne.mpr c7
              (first | rw [c7b0] | (simp only [i64_w, i32_w]; rw [c7b0]) | skip)
              by_cases c8 : 0 ≤ x3_3
              · rw [if_pos c8] at H
                have c8b0 : decide (0 ≤ x3_3) = true := decide_eq_true c8
                clear c8
                by_cases c9 : x3_3 < (l0.length : Int)
                · rw [if_pos c9] at H
                  have c9b0 : decide (x3_3 < (l0.length : Int)) = true := decide_eq_true c9
                  clear c9
                  by_cases c10 : (rd l0 x3_3) = 48
                  · rw [if_pos c10] at H
                    have c10b0 : ((rd l0 x3_3) == 48) = true := beq_iff_eq.mpr c10
                    have c10b1 : ((rd l0 x3_3) != 48) = false := bne_eq_false_iff_eq.mpr c10
                    clear c10
                    have H' := Aside0.mk H
                    clear H
                    have p158 : 0 ≤ (x3_3 : Int) := of_decide_eq_true (by first | (with_reducible assumption) | assumption)
                    have q158 : x3_3 < (l0.length : Int) := of_decide_eq_true (by first | (with_reducible assumption) | assumption)
                    obtain ⟨ad158, e158, hx158_0⟩ := Kd.at_int HR0.out x3_3 p158 q158
                    cases e158
                    replace p158 := eq_true p158
                    replace q158 := eq_true q158
                    go_wp2
                    go_meet
                    case rel => exact ⟨_, (wrap64 (x3_3 + 1)), (by first | rfl | (simp; done) | (simp [*]; done) | (simp [wrap64]; done)), H', ⟨by have := HJ1.out; have := HJ3.out; first | omega | exact Nat.le_refl _⟩, by repeat (first | exact Drawn0.refl _ | apply Drawn0.step)⟩
                  · rw [if_neg c10] at H
                    have c10b0 : ((rd l0 x3_3) == 48) = false := beq_eq_false_iff_ne.mpr c10
                    have c10b1 : ((rd l0 x3_3) != 48) = true := bne_iff_ne.mpr c10
                    by_cases c11 : 49 ≤ (rd l0 x3_3)
                    · rw [if_pos c11] at H
                      have c11b0 : decide (49 ≤ (rd l0 x3_3)) = true := decide_eq_true c11
                      clear c11
                      by_cases c12 : (rd l0 x3_3) ≤ 57
                      · rw [if_pos c12] at H
                        have c12b0 : decide ((rd l0 x3_3) ≤ 57) = true := decide_eq_true c12
                        clear c12
                        replace H := Option.bind_eq_some_iff.mp H
                        obtain ⟨t161, A130, H⟩ := H
                        replace H : (gojsonnum_End.j2 kj3 l0 t161) = some r := H
                        have A13 := Aside0.mk A130
                        clear A130
                        have H' := Aside0.mk H
                        clear H
                        have p158 : 0 ≤ (x3_3 : Int) := of_decide_eq_true (by first | (with_reducible assumption) | assumption)
                        have q158 : x3_3 < (l0.length : Int) := of_decide_eq_true (by first | (with_reducible assumption) | assumption)
                        obtain ⟨ad158, e158, hx158_0⟩ := Kd.at_int HR0.out x3_3 p158 q158
                        cases e158
                        replace p158 := eq_true p158
                        replace q158 := eq_true q158
                        have p159 : 0 ≤ (x3_3 : Int) := of_decide_eq_true (by first | (with_reducible assumption) | assumption)
                        have q159 : x3_3 < (l0.length : Int) := of_decide_eq_true (by first | (with_reducible assumption) | assumption)
                        obtain ⟨ad159, e159, hx159_0⟩ := Kd.at_int HR0.out x3_3 p159 q159
                        obtain rfl : ad158 = ad159 := (by injection e159)
                        replace p159 := eq_true p159
                        replace q159 := eq_true q159
                        have p160 : 0 ≤ (x3_3 : Int) := of_decide_eq_true (by first | (with_reducible assumption) | assumption)
                        have q160 : x3_3 < (l0.length : Int) := of_decide_eq_true (by first | (with_reducible assumption) | assumption)
                        obtain ⟨ad160, e160, hx160_0⟩ := Kd.at_int HR0.out x3_3 p160 q160
                        obtain rfl : ad158 = ad160 := (by injection e160)
                        replace p160 := eq_true p160
                        replace q160 := eq_true q160
                        go_wp2_with (first | ((with_reducible refine gate_callee (f := 15) rfl ?_); refine goesL_ (some 46) rfl rfl Tryd.func15 (by kernel_rfl) rfl #[.slice (some ad158) l0.length c0, .int .i64 (wrap64 (x3_3 + 1))] rfl (by (try simp only [List.map_toArray, List.map_cons, List.map_nil]); first | done | rfl | (simp only [List.length_drop, List.length_take]; rfl)) ?_; (with_reducible refine (gojsonnum_ScanDigits.calls kj3 _ _ l0 (wrap64 (x3_3 + 1)) t161 _ ?side1 ?side2 ?side3 A13.out).mono ?_); (case side1 => repeat (first | exact HR0.out | (with_reducible refine Kd.C_alloc ?_ _) | (with_reducible refine Kd.C_drewN ?_ _) | (with_reducible refine Kd.C_drew ?_))); (case side2 => exact HC0.out); (case side3 => first | exact HG.out | exact Glob.drawn HG.out (by repeat (first | exact Drawn0.refl _ | apply Drawn0.step))); rintro e w' ⟨rfl, ⟨nd, rfl⟩⟩; refine ⟨_, rfl, ?_⟩))
                        go_meet
                        case rel => exact ⟨_, (t161), (by first | rfl | (simp; done) | (simp [*]; done) | (simp [wrap64]; done)), H', ⟨by have := HJ1.out; have := HJ3.out; first | omega | exact Nat.le_refl _⟩, by repeat (first | exact Drawn0.refl _ | apply Drawn0.step)⟩
                      · rw [if_neg c12] at H
                        have c12b0 : decide ((rd l0 x3_3) ≤ 57) = false := decide_eq_false c12
                        clear c12
                        obtain rfl := Option.some.inj H
                        have p158 : 0 ≤ (x3_3 : Int) := of_decide_eq_true (by first | (with_reducible assumption) | assumption)
                        have q158 : x3_3 < (l0.length : Int) := of_decide_eq_true (by first | (with_reducible assumption) | assumption)
                        obtain ⟨ad158, e158, hx158_0⟩ := Kd.at_int HR0.out x3_3 p158 q158
                        cases e158
                        replace p158 := eq_true p158
                        replace q158 := eq_true q158
                        have p159 : 0 ≤ (x3_3 : Int) := of_decide_eq_true (by first | (with_reducible assumption) | assumption)
                        have q159 : x3_3 < (l0.length : Int) := of_decide_eq_true (by first | (with_reducible assumption) | assumption)
                        obtain ⟨ad159, e159, hx159_0⟩ := Kd.at_int HR0.out x3_3 p159 q159
                        obtain rfl : ad158 = ad159 := (by injection e159)
                        replace p159 := eq_true p159
                        replace q159 := eq_true q159
                        have p160 : 0 ≤ (x3_3 : Int) := of_decide_eq_true (by first | (with_reducible assumption) | assumption)
                        have q160 : x3_3 < (l0.length : Int) := of_decide_eq_true (by first | (with_reducible assumption) | assumption)
                        obtain ⟨ad160, e160, hx160_0⟩ := Kd.at_int HR0.out x3_3 p160 q160
                        obtain rfl : ad158 = ad160 := (by injection e160)
                        replace p160 := eq_true p160
                        replace q160 := eq_true q160
                        go_wp2
                        go_ret
                        exact ⟨by first | rfl | (simp; done) | (simp [*]; done) | (simp [wrap64]; done), by repeat (first | exact Drawn0.refl _ | apply Drawn0.step)⟩
                    · rw [if_neg c11] at H
                      have c11b0 : decide (49 ≤ (rd l0 x3_3)) = false := decide_eq_false c11
                      clear c11
                      obtain rfl := Option.some.inj H
                      have p158 : 0 ≤ (x3_3 : Int) := of_decide_eq_true (by first | (with_reducible assumption) | assumption)
                      have q158 : x3_3 < (l0.length : Int) := of_decide_eq_true (by first | (with_reducible assumption) | assumption)
                      obtain ⟨ad158, e158, hx158_0⟩ := Kd.at_int HR0.out x3_3 p158 q158
                      cases e158
                      replace p158 := eq_true p158
                      replace q158 := eq_true q158
                      have p159 : 0 ≤ (x3_3 : Int) := of_decide_eq_true (by first | (with_reducible assumption) | assumption)
                      have q159 : x3_3 < (l0.length : Int) := of_decide_eq_true (by first | (with_reducible assumption) | assumption)
                      obtain ⟨ad159, e159, hx159_0⟩ := Kd.at_int HR0.out x3_3 p159 q159
                      obtain rfl : ad158 = ad159 := (by injection e159)
                      replace p159 := eq_true p159
                      replace q159 := eq_true q159
                      go_wp2
                      go_ret
                      exact ⟨by first | rfl | (simp; done) | (simp [*]; done) | (simp [wrap64]; done), by repeat (first | exact Drawn0.refl _ | apply Drawn0.step)⟩
                · rw [if_neg c9] at H
                  exact absurd H (by simp)
              · rw [if_neg c8] at H
                exact absurd H (by simp)
          case rest =>
            clear HC6
            try clear c1
            try clear p1
            try clear q1
            try clear hx1
            try clear qi1
            try clear p2
            try clear c3
            try clear c3b0
            try clear c3b1
            try clear c5
            try clear p6
            try clear c7
            try clear c7b0
            try clear c7b1
            try clear c8
            try clear c8b0
            try clear c9
            try clear c9b0
            try clear c10
            try clear c10b0
            try clear c10b1
            try clear c11
            try clear c11b0
            try clear c12
            try clear c12b0
            try clear hx157_0
            try clear hx158_0
            try clear hx159_0
            try clear hx160_0
            try clear p1
            try clear p157
            try clear p158
            try clear p159
            try clear p160
            try clear p2
            try clear q1
            try clear q157
            try clear q158
            try clear q159
            try clear q160
            obtain ⟨kq, x3_5, rfl, HA, HJ5, ⟨mc5, rfl⟩⟩ := hcut
            cases kq with
            | zero => exact absurd HA.out (by simp [gojsonnum_End.j2])
            | succ kj5 =>
              have H := HA.out
              clear HA
              simp only [gojsonnum_End.j2] at H
              have HC14 := Aside0.mk H
              clear H
              go_upto_region 11 with (fail)
              go_cut [57] (fun v57 wc => ∃ (kq : Nat) (x57_13 : Bool), v57 = .bool x57_13 ∧ Aside0 (gojsonnum_End.j3 kq l0 x3_5 x57_13 = some r) ∧ Aside0 (kq ≤ kj5) ∧ Drawn0 w wc)
              case first =>
                have H := HC14.out
                clear HC14
                by_cases c15 : x3_5 < (l0.length : Int)
                · rw [if_pos c15] at H
                  have c15b0 : decide (x3_5 < (l0.length : Int)) = true := decide_eq_true c15
                  clear c15
                  (first | rw [c15b0] | (simp only [i64_w, i32_w]; rw [c15b0]) | skip)
                  by_cases c16 : 0 ≤ x3_5
                  · rw [if_pos c16] at H
                    have c16b0 : decide (0 ≤ x3_5) = true := decide_eq_true c16
                    clear c16
                    have H' := Aside0.mk H
                    clear H
                    have p162 : 0 ≤ (x3_5 : Int) := of_decide_eq_true (by first | (with_reducible assumption) | assumption)
                    have q162 : x3_5 < (l0.length : Int) := of_decide_eq_true (by first | (with_reducible assumption) | assumption)
                    obtain ⟨ad162, e162, hx162_0⟩ := Kd.at_int HR0.out x3_5 p162 q162
                    cases e162
                    replace p162 := eq_true p162
                    replace q162 := eq_true q162
                    go_wp2
                    go_meet
                    case rel => exact ⟨_, (((rd l0 x3_5) == 46)), (by first | rfl | (simp; done) | (simp [*]; done) | (simp [wrap64]; done)), H', ⟨by have := HJ1.out; have := HJ3.out; have := HJ5.out; first | omega | exact Nat.le_refl _⟩, by repeat (first | exact Drawn0.refl _ | apply Drawn0.step)⟩
                  · rw [if_neg c16] at H
                    exact absurd H (by simp)
                · rw [if_neg c15] at H
                  have c15b0 : decide (x3_5 < (l0.length : Int)) = false := decide_eq_false c15
                  clear c15
                  (first | rw [c15b0] | (simp only [i64_w, i32_w]; rw [c15b0]) | skip)
                  have H' := Aside0.mk H
                  clear H
                  go_wp2
                  go_meet
                  case rel => exact ⟨_, (false), (by first | rfl | (simp; done) | (simp [*]; done) | (simp [wrap64]; done)), H', ⟨by have := HJ1.out; have := HJ3.out; have := HJ5.out; first | omega | exact Nat.le_refl _⟩, by repeat (first | exact Drawn0.refl _ | apply Drawn0.step)⟩
              case rest =>
                clear HC14
                try clear c1
                try clear p1
                try clear q1
                try clear hx1
                try clear qi1
                try clear p2
                try clear c3
                try clear c3b0
                try clear c3b1
                try clear c5
                try clear p6
                try clear c7
                try clear c7b0
                try clear c7b1
                try clear c8
                try clear c8b0
                try clear c9
                try clear c9b0
                try clear c10
                try clear c10b0
                try clear c10b1
                try clear c11
                try clear c11b0
                try clear c12
                try clear c12b0
                try clear c15
                try clear c15b0
                try clear p15
                try clear q15
                try clear hx15
                try clear qi15
                try clear c16
                try clear c16b0
                try clear p16
                try clear q16
                try clear hx16
                try clear hx157_0
                try clear hx158_0
                try clear hx159_0
                try clear hx160_0
                try clear hx162_0
                try clear p1
                try clear p157
                try clear p158
                try clear p159
                try clear p160
                try clear p162
                try clear p2
                try clear p6
                try clear q1
                try clear q157
                try clear q158
                try clear q159
                try clear q160
                try clear q162
                obtain ⟨kq, x57_13, rfl, HA, HJ13, ⟨mc13, rfl⟩⟩ := hcut
                cases kq with
                | zero => exact absurd HA.out (by simp [gojsonnum_End.j3])
                | succ kj13 =>
                  have H := HA.out
                  clear HA
                  simp only [gojsonnum_End.j3] at H
                  have HC17 := Aside0.mk H
                  clear H
                  go_upto_if 57 with (fail)
                  go_cut [3] (fun v3 wc => ∃ (kq : Nat) (x3_16 : Int), v3 = .int .i64 x3_16 ∧ Aside0 (gojsonnum_End.j4 kq l0 x3_16 = some r) ∧ Aside0 (kq ≤ kj13) ∧ Drawn0 w wc)
                  case first =>
                    have H := HC17.out
                    clear HC17
                    by_cases c18 : x57_13 = true
                    · subst c18
                      have H1 : (if (wrap64 (x3_5 + 1)) = (l0.length : Int) then (some (-1)) else (if 0 ≤ (wrap64 (x3_5 + 1)) then (if (wrap64 (x3_5 + 1)) < (l0.length : Int) then (if (rd l0 (wrap64 (x3_5 + 1))) < 48 then (some (-1)) else (if 57 < (rd l0 (wrap64 (x3_5 + 1))) then (some (-1)) else ((gojsonnum_ScanDigits.f kj13 l0 (wrap64 ((wrap64 (x3_5 + 1)) + 1))).bind fun t165 => (gojsonnum_End.j4 kj13 l0 t165)))) else (none)) else (none))) = some r := by rw [if_pos rfl] at H; exact H
                      clear H
                      have H := H1
                      clear H1
                      by_cases c19 : (wrap64 (x3_5 + 1)) = (l0.length : Int)
                      · rw [if_pos c19] at H
                        have c19b0 : ((wrap64 (x3_5 + 1)) == (l0.length : Int)) = true := beq_iff_eq.mpr c19
                        have c19b1 : ((wrap64 (x3_5 + 1)) != (l0.length : Int)) = false := bne_eq_false_iff_eq.mpr c19
                        clear c19
                        (first | rw [c19b0] | (simp only [i64_w, i32_w]; rw [c19b0]) | skip)
                        obtain rfl := Option.some.inj H
                        go_wp2
                        go_ret
                        exact ⟨by first | rfl | (simp; done) | (simp [*]; done) | (simp [wrap64]; done), by repeat (first | exact Drawn0.refl _ | apply Drawn0.step)⟩
                      · rw [if_neg c19] at H
                        have c19b0 : ((wrap64 (x3_5 + 1)) == (l0.length : Int)) = false := beq_eq_false_iff_ne.mpr c19
                        have c19b1 : ((wrap64 (x3_5 + 1)) != (l0.length : Int)) = true := bne_iff_ne.mpr c19
                        (first | rw [c19b0] | (simp only [i64_w, i32_w]; rw [c19b0]) | skip)
                        obtain ⟨ji20, hji20⟩ : ∃ j_ : Int, (wrap64 (x3_5 + 1)) = j_ := ⟨_, rfl⟩
                        replace H : (if 0 ≤ (ji20) then (if (ji20) < (l0.length : Int) then (if (rd l0 (ji20)) < 48 then (some (-1)) else (if 57 < (rd l0 (ji20)) then (some (-1)) else ((gojsonnum_ScanDigits.f kj13 l0 (wrap64 ((ji20) + 1))).bind fun t165 => (gojsonnum_End.j4 kj13 l0 t165)))) else (none)) else (none)) = some r := by first | (rw [hji20] at H; exact H) | (simp only [hji20] at H ⊢; exact H)
                        (try rw [hji20] at c19b0)
                        (try rw [hji20] at c19b1)
                        have hji20w : (IntKind.i64.wrap (x3_5 + 1)) = ji20 := (i64_w _).trans hji20
                        by_cases c21 : 0 ≤ (ji20)
                        · rw [if_pos c21] at H
                          have c21b0 : decide (0 ≤ (ji20)) = true := decide_eq_true c21
                          clear c21
                          by_cases c22 : (ji20) < (l0.length : Int)
                          · rw [if_pos c22] at H
                            have c22b0 : decide ((ji20) < (l0.length : Int)) = true := decide_eq_true c22
                            clear c22
                            by_cases c23 : (rd l0 (ji20)) < 48
                            · rw [if_pos c23] at H
                              have c23b0 : decide ((rd l0 (ji20)) < 48) = true := decide_eq_true c23
                              clear c23
                              obtain rfl := Option.some.inj H
                              have p163 : 0 ≤ ((ji20) : Int) := of_decide_eq_true (by first | (with_reducible assumption) | assumption)
                              have q163 : (ji20) < (l0.length : Int) := of_decide_eq_true (by first | (with_reducible assumption) | assumption)
                              obtain ⟨ad163, e163, hx163_0⟩ := Kd.at_int HR0.out (ji20) p163 q163
                              cases e163
                              replace p163 := eq_true p163
                              replace q163 := eq_true q163
                              go_wp2
                              go_ret
                              exact ⟨by first | rfl | (simp; done) | (simp only [← hji20] <;> (first | rfl | simp)) | (simp [*]; done) | (simp [wrap64]; done), by repeat (first | exact Drawn0.refl _ | apply Drawn0.step)⟩
                            · rw [if_neg c23] at H
                              have c23b0 : decide ((rd l0 (ji20)) < 48) = false := decide_eq_false c23
                              clear c23
                              by_cases c24 : 57 < (rd l0 (ji20))
                              · rw [if_pos c24] at H
                                have c24b0 : decide (57 < (rd l0 (ji20))) = true := decide_eq_true c24
                                clear c24
                                obtain rfl := Option.some.inj H
                                have p163 : 0 ≤ ((ji20) : Int) := of_decide_eq_true (by first | (with_reducible assumption) | assumption)
                                have q163 : (ji20) < (l0.length : Int) := of_decide_eq_true (by first | (with_reducible assumption) | assumption)
                                obtain ⟨ad163, e163, hx163_0⟩ := Kd.at_int HR0.out (ji20) p163 q163
                                cases e163
                                replace p163 := eq_true p163
                                replace q163 := eq_true q163
                                have p164 : 0 ≤ ((ji20) : Int) := of_decide_eq_true (by first | (with_reducible assumption) | assumption)
                                have q164 : (ji20) < (l0.length : Int) := of_decide_eq_true (by first | (with_reducible assumption) | assumption)
                                obtain ⟨ad164, e164, hx164_0⟩ := Kd.at_int HR0.out (ji20) p164 q164
                                obtain rfl : ad163 = ad164 := (by injection e164)
                                replace p164 := eq_true p164
                                replace q164 := eq_true q164
                                go_wp2
                                go_ret
                                exact ⟨by first | rfl | (simp; done) | (simp only [← hji20] <;> (first | rfl | simp)) | (simp [*]; done) | (simp [wrap64]; done), by repeat (first | exact Drawn0.refl _ | apply Drawn0.step)⟩
                              · rw [if_neg c24] at H
                                have c24b0 : decide (57 < (rd l0 (ji20))) = false := decide_eq_false c24
                                clear c24
                                replace H := Option.bind_eq_some_iff.mp H
                                obtain ⟨t165, A250, H⟩ := H
                                replace H : (gojsonnum_End.j4 kj13 l0 t165) = some r := H
                                have A25 := Aside0.mk A250
                                clear A250
                                have H' := Aside0.mk H
                                clear H
                                have p163 : 0 ≤ ((ji20) : Int) := of_decide_eq_true (by first | (with_reducible assumption) | assumption)
                                have q163 : (ji20) < (l0.length : Int) := of_decide_eq_true (by first | (with_reducible assumption) | assumption)
                                obtain ⟨ad163, e163, hx163_0⟩ := Kd.at_int HR0.out (ji20) p163 q163
                                cases e163
                                replace p163 := eq_true p163
                                replace q163 := eq_true q163
                                have p164 : 0 ≤ ((ji20) : Int) := of_decide_eq_true (by first | (with_reducible assumption) | assumption)
                                have q164 : (ji20) < (l0.length : Int) := of_decide_eq_true (by first | (with_reducible assumption) | assumption)
                                obtain ⟨ad164, e164, hx164_0⟩ := Kd.at_int HR0.out (ji20) p164 q164
                                obtain rfl : ad163 = ad164 := (by injection e164)
                                replace p164 := eq_true p164
                                replace q164 := eq_true q164
                                go_wp2_with (first | ((with_reducible refine gate_callee (f := 15) rfl ?_); refine goesL_ (some 81) rfl rfl Tryd.func15 (by kernel_rfl) rfl #[.slice (some ad163) l0.length c0, .int .i64 (wrap64 ((ji20) + 1))] rfl (by (try simp only [List.map_toArray, List.map_cons, List.map_nil]); first | done | (simp only [hji20]; rfl) | rfl | (simp only [List.length_drop, List.length_take]; rfl)) ?_; (with_reducible refine (gojsonnum_ScanDigits.calls kj13 _ _ l0 (wrap64 ((ji20) + 1)) t165 _ ?side1 ?side2 ?side3 A25.out).mono ?_); (case side1 => repeat (first | exact HR0.out | (with_reducible refine Kd.C_alloc ?_ _) | (with_reducible refine Kd.C_drewN ?_ _) | (with_reducible refine Kd.C_drew ?_))); (case side2 => exact HC0.out); (case side3 => first | exact HG.out | exact Glob.drawn HG.out (by repeat (first | exact Drawn0.refl _ | apply Drawn0.step))); rintro e w' ⟨rfl, ⟨nd, rfl⟩⟩; refine ⟨_, rfl, ?_⟩))
                                first | (go_meet) | (subst hji20; go_meet)
                                case rel => first | (exact ⟨_, (t165), (by first | rfl | (simp; done) | (simp [*]; done) | (simp [wrap64]; done)), H', ⟨by have := HJ1.out; have := HJ3.out; have := HJ5.out; have := HJ13.out; first | omega | exact Nat.le_refl _⟩, by repeat (first | exact Drawn0.refl _ | apply Drawn0.step)⟩) | (subst hji20; exact ⟨_, (t165), (by first | rfl | (simp; done) | (simp [*]; done) | (simp [wrap64]; done)), H', ⟨by have := HJ1.out; have := HJ3.out; have := HJ5.out; have := HJ13.out; first | omega | exact Nat.le_refl _⟩, by repeat (first | exact Drawn0.refl _ | apply Drawn0.step)⟩) | (exact ⟨_, (t165), (by first | rfl | (simp; done) | (simp [*]; done) | (simp [wrap64]; done)), H', ⟨by have := HJ1.out; have := HJ3.out; have := HJ5.out; have := HJ13.out; first | omega | exact Nat.le_refl _⟩, by repeat (first | exact Drawn0.refl _ | apply Drawn0.step)⟩)
                          · rw [if_neg c22] at H
                            exact absurd H (by simp)
                        · rw [if_neg c21] at H
                          exact absurd H (by simp)
                    · replace c18 := Bool.eq_false_iff.mpr c18
                      subst c18
                      have H1 : (gojsonnum_End.j4 kj13 l0 x3_5) = some r := by rw [if_neg (show ¬ (false = true) by decide)] at H; exact H
                      clear H
                      have H := H1
                      clear H1
                      have H' := Aside0.mk H
                      clear H
                      go_wp2
                      go_meet
                      case rel => exact ⟨_, (x3_5), (by first | rfl | (simp; done) | (simp [*]; done) | (simp [wrap64]; done)), H', ⟨by have := HJ1.out; have := HJ3.out; have := HJ5.out; have := HJ13.out; first | omega | exact Nat.le_refl _⟩, by repeat (first | exact Drawn0.refl _ | apply Drawn0.step)⟩
                  case rest =>
                    clear HC17
                    try clear c1
                    try clear p1
                    try clear q1
                    try clear hx1
                    try clear qi1
                    try clear c2
                    try clear p2
                    try clear c3
                    try clear c3b0
                    try clear c3b1
                    try clear c5
                    try clear p6
                    try clear c7
                    try clear c7b0
                    try clear c7b1
                    try clear c8
                    try clear c8b0
                    try clear c9
                    try clear c9b0
                    try clear c10
                    try clear c10b0
                    try clear c10b1
                    try clear c11
                    try clear c11b0
                    try clear c12
                    try clear c12b0
                    try clear c13
                    try clear c15
                    try clear c15b0
                    try clear p15
                    try clear q15
                    try clear hx15
                    try clear qi15
                    try clear c16
                    try clear c16b0
                    try clear p16
                    try clear q16
                    try clear hx16
                    try clear c18
                    try clear c19
                    try clear c19b0
                    try clear c19b1
                    try clear c21
                    try clear c21b0
                    try clear c22
                    try clear c22b0
                    try clear c23
                    try clear c23b0
                    try clear c24
                    try clear c24b0
                    try clear hx157_0
                    try clear hx158_0
                    try clear hx159_0
                    try clear hx160_0
                    try clear hx162_0
                    try clear hx163_0
                    try clear hx164_0
                    try clear p1
                    try clear p15
                    try clear p157
                    try clear p158
                    try clear p159
                    try clear p16
                    try clear p160
                    try clear p162
                    try clear p163
                    try clear p164
                    try clear p2
                    try clear p6
                    try clear q1
                    try clear q15
                    try clear q157
                    try clear q158
                    try clear q159
                    try clear q16
                    try clear q160
                    try clear q162
                    try clear q163
                    try clear q164
                    obtain ⟨kq, x3_16, rfl, HA, HJ16, ⟨mc16, rfl⟩⟩ := hcut
                    cases kq with
                    | zero => exact absurd HA.out (by simp [gojsonnum_End.j4])
                    | succ kj16 =>
                      have H := HA.out
                      clear HA
                      simp only [gojsonnum_End.j4] at H
                      have HC26 := Aside0.mk H
                      clear H
                      go_upto_region 16 with (fail)
                      go_cut [99] (fun v99 wc => ∃ (kq : Nat) (x99_25 : Bool), v99 = .bool x99_25 ∧ Aside0 (gojsonnum_End.j5 kq l0 x3_16 x99_25 = some r) ∧ Aside0 (kq ≤ kj16) ∧ Drawn0 w wc)
                      case first =>
                        have H := HC26.out
                        clear HC26
                        by_cases c27 : x3_16 < (l0.length : Int)
                        · rw [if_pos c27] at H
                          have c27b0 : decide (x3_16 < (l0.length : Int)) = true := decide_eq_true c27
                          clear c27
                          (first | rw [c27b0] | (simp only [i64_w, i32_w]; rw [c27b0]) | skip)
                          by_cases c28 : 0 ≤ x3_16
                          · rw [if_pos c28] at H
                            have c28b0 : decide (0 ≤ x3_16) = true := decide_eq_true c28
                            clear c28
                            by_cases c29 : (rd l0 x3_16) = 101
                            · rw [if_pos c29] at H
                              have c29b0 : ((rd l0 x3_16) == 101) = true := beq_iff_eq.mpr c29
                              have c29b1 : ((rd l0 x3_16) != 101) = false := bne_eq_false_iff_eq.mpr c29
                              clear c29
                              have H' := Aside0.mk H
                              clear H
                              have p166 : 0 ≤ (x3_16 : Int) := of_decide_eq_true (by first | (with_reducible assumption) | assumption)
                              have q166 : x3_16 < (l0.length : Int) := of_decide_eq_true (by first | (with_reducible assumption) | assumption)
                              obtain ⟨ad166, e166, hx166_0⟩ := Kd.at_int HR0.out x3_16 p166 q166
                              cases e166
                              replace p166 := eq_true p166
                              replace q166 := eq_true q166
                              go_wp2
                              go_meet
                              case rel => exact ⟨_, (true), (by first | rfl | (simp; done) | (simp [*]; done) | (simp [wrap64]; done)), H', ⟨by have := HJ1.out; have := HJ3.out; have := HJ5.out; have := HJ13.out; have := HJ16.out; first | omega | exact Nat.le_refl _⟩, by repeat (first | exact Drawn0.refl _ | apply Drawn0.step)⟩
                            · rw [if_neg c29] at H
                              have c29b0 : ((rd l0 x3_16) == 101) = false := beq_eq_false_iff_ne.mpr c29
                              have c29b1 : ((rd l0 x3_16) != 101) = true := bne_iff_ne.mpr c29
                              have H' := Aside0.mk H
                              clear H
                              have p166 : 0 ≤ (x3_16 : Int) := of_decide_eq_true (by first | (with_reducible assumption) | assumption)
                              have q166 : x3_16 < (l0.length : Int) := of_decide_eq_true (by first | (with_reducible assumption) | assumption)
                              obtain ⟨ad166, e166, hx166_0⟩ := Kd.at_int HR0.out x3_16 p166 q166
                              cases e166
                              replace p166 := eq_true p166
                              replace q166 := eq_true q166
                              have p167 : 0 ≤ (x3_16 : Int) := of_decide_eq_true (by first | (with_reducible assumption) | assumption)
                              have q167 : x3_16 < (l0.length : Int) := of_decide_eq_true (by first | (with_reducible assumption) | assumption)
                              obtain ⟨ad167, e167, hx167_0⟩ := Kd.at_int HR0.out x3_16 p167 q167
                              obtain rfl : ad166 = ad167 := (by injection e167)
                              replace p167 := eq_true p167
                              replace q167 := eq_true q167
                              go_wp2
                              go_meet
                              case rel => exact ⟨_, (((rd l0 x3_16) == 69)), (by first | rfl | (simp; done) | (simp [*]; done) | (simp [wrap64]; done)), H', ⟨by have := HJ1.out; have := HJ3.out; have := HJ5.out; have := HJ13.out; have := HJ16.out; first | omega | exact Nat.le_refl _⟩, by repeat (first | exact Drawn0.refl _ | apply Drawn0.step)⟩
                          · rw [if_neg c28] at H
                            exact absurd H (by simp)
                        · rw [if_neg c27] at H
                          have c27b0 : decide (x3_16 < (l0.length : Int)) = false := decide_eq_false c27
                          clear c27
                          (first | rw [c27b0] | (simp only [i64_w, i32_w]; rw [c27b0]) | skip)
                          have H' := Aside0.mk H
                          clear H
                          go_wp2
                          go_meet
                          case rel => exact ⟨_, (false), (by first | rfl | (simp; done) | (simp [*]; done) | (simp [wrap64]; done)), H', ⟨by have := HJ1.out; have := HJ3.out; have := HJ5.out; have := HJ13.out; have := HJ16.out; first | omega | exact Nat.le_refl _⟩, by repeat (first | exact Drawn0.refl _ | apply Drawn0.step)⟩
                      case rest =>
                        clear HC26
                        try clear c1
                        try clear p1
                        try clear q1
                        try clear hx1
                        try clear qi1
                        try clear c2
                        try clear p2
                        try clear c3
                        try clear c3b0
                        try clear c3b1
                        try clear c5
                        try clear p6
                        try clear c7
                        try clear c7b0
                        try clear c7b1
                        try clear c8
                        try clear c8b0
                        try clear c9
                        try clear c9b0
                        try clear c10
                        try clear c10b0
                        try clear c10b1
                        try clear c11
                        try clear c11b0
                        try clear c12
                        try clear c12b0
                        try clear c13
                        try clear c15
                        try clear c15b0
                        try clear p15
                        try clear q15
                        try clear hx15
                        try clear qi15
                        try clear c16
                        try clear c16b0
                        try clear p16
                        try clear q16
                        try clear hx16
                        try clear c18
                        try clear c19
                        try clear c19b0
                        try clear c19b1
                        try clear c21
                        try clear c21b0
                        try clear c22
                        try clear c22b0
                        try clear c23
                        try clear c23b0
                        try clear c24
                        try clear c24b0
                        try clear c27
                        try clear c27b0
                        try clear c28
                        try clear c28b0
                        try clear c29
                        try clear c29b0
                        try clear c29b1
                        try clear hx157_0
                        try clear hx158_0
                        try clear hx159_0
                        try clear hx160_0
                        try clear hx162_0
                        try clear hx163_0
                        try clear hx164_0
                        try clear hx166_0
                        try clear hx167_0
                        try clear p1
                        try clear p15
                        try clear p157
                        try clear p158
                        try clear p159
                        try clear p16
                        try clear p160
                        try clear p162
                        try clear p163
                        try clear p164
                        try clear p166
                        try clear p167
                        try clear p2
                        try clear p6
                        try clear q1
                        try clear q15
                        try clear q157
                        try clear q158
                        try clear q159
                        try clear q16
                        try clear q160
                        try clear q162
                        try clear q163
                        try clear q164
                        try clear q166
                        try clear q167
                        obtain ⟨kq, x99_25, rfl, HA, HJ25, ⟨mc25, rfl⟩⟩ := hcut
                        cases kq with
                        | zero => exact absurd HA.out (by simp [gojsonnum_End.j5])
                        | succ kj25 =>
                          have H := HA.out
                          clear HA
                          simp only [gojsonnum_End.j5] at H
                          by_cases c30 : x99_25 = true
                          · subst c30
                            have H1 : (if (wrap64 (x3_16 + 1)) < (l0.length : Int) then (if 0 ≤ (wrap64 (x3_16 + 1)) then (if (rd l0 (wrap64 (x3_16 + 1))) = 43 then (gojsonnum_End.j6 kj25 l0 (wrap64 (x3_16 + 1)) true) else (gojsonnum_End.j6 kj25 l0 (wrap64 (x3_16 + 1)) ((rd l0 (wrap64 (x3_16 + 1))) == 45))) else (none)) else (gojsonnum_End.j6 kj25 l0 (wrap64 (x3_16 + 1)) false)) = some r := by rw [if_pos rfl] at H; exact H
                            clear H
                            have H := H1
                            clear H1
                            have HC31 := Aside0.mk H
                            clear H
                            go_upto_region 18 with (fail)
                            go_cut [119] (fun v119 wc => ∃ (kq : Nat) (x119_30 : Bool), v119 = .bool x119_30 ∧ Aside0 (gojsonnum_End.j6 kq l0 (wrap64 (x3_16 + 1)) x119_30 = some r) ∧ Aside0 (kq ≤ kj25) ∧ Drawn0 w wc)
                            case first =>
                              have H := HC31.out
                              clear HC31
                              by_cases c32 : (wrap64 (x3_16 + 1)) < (l0.length : Int)
                              · rw [if_pos c32] at H
                                have c32b0 : decide ((wrap64 (x3_16 + 1)) < (l0.length : Int)) = true := decide_eq_true c32
                                clear c32
                                (first | rw [c32b0] | (simp only [i64_w, i32_w]; rw [c32b0]) | skip)
                                obtain ⟨ji33, hji33⟩ : ∃ j_ : Int, (wrap64 (x3_16 + 1)) = j_ := ⟨_, rfl⟩
                                replace H : (if 0 ≤ (ji33) then (if (rd l0 (ji33)) = 43 then (gojsonnum_End.j6 kj25 l0 ji33 true) else (gojsonnum_End.j6 kj25 l0 ji33 ((rd l0 (ji33)) == 45))) else (none)) = some r := by first | (rw [hji33] at H; exact H) | (simp only [hji33] at H ⊢; exact H)
                                (try rw [hji33] at c32b0)
                                have hji33w : (IntKind.i64.wrap (x3_16 + 1)) = ji33 := (i64_w _).trans hji33
                                by_cases c34 : 0 ≤ (ji33)
                                · rw [if_pos c34] at H
                                  have c34b0 : decide (0 ≤ (ji33)) = true := decide_eq_true c34
                                  clear c34
                                  by_cases c35 : (rd l0 (ji33)) = 43
                                  · rw [if_pos c35] at H
                                    have c35b0 : ((rd l0 (ji33)) == 43) = true := beq_iff_eq.mpr c35
                                    have c35b1 : ((rd l0 (ji33)) != 43) = false := bne_eq_false_iff_eq.mpr c35
                                    clear c35
                                    have H' := Aside0.mk H
                                    clear H
                                    have p168 : 0 ≤ ((ji33) : Int) := of_decide_eq_true (by first | (with_reducible assumption) | assumption)
                                    have q168 : (ji33) < (l0.length : Int) := of_decide_eq_true (by first | (with_reducible assumption) | assumption)
                                    obtain ⟨ad168, e168, hx168_0⟩ := Kd.at_int HR0.out (ji33) p168 q168
                                    cases e168
                                    replace p168 := eq_true p168
                                    replace q168 := eq_true q168
                                    go_wp2
                                    first | (go_meet) | (subst hji33; go_meet)
                                    case rel => first | (exact ⟨_, (true), (by first | rfl | (simp; done) | (simp [*]; done) | (simp [wrap64]; done)), H', ⟨by have := HJ1.out; have := HJ3.out; have := HJ5.out; have := HJ13.out; have := HJ16.out; have := HJ25.out; first | omega | exact Nat.le_refl _⟩, by repeat (first | exact Drawn0.refl _ | apply Drawn0.step)⟩) | (subst hji33; exact ⟨_, (true), (by first | rfl | (simp; done) | (simp [*]; done) | (simp [wrap64]; done)), H', ⟨by have := HJ1.out; have := HJ3.out; have := HJ5.out; have := HJ13.out; have := HJ16.out; have := HJ25.out; first | omega | exact Nat.le_refl _⟩, by repeat (first | exact Drawn0.refl _ | apply Drawn0.step)⟩) | (exact ⟨_, (true), (by first | rfl | (simp; done) | (simp [*]; done) | (simp [wrap64]; done)), H', ⟨by have := HJ1.out; have := HJ3.out; have := HJ5.out; have := HJ13.out; have := HJ16.out; have := HJ25.out; first | omega | exact Nat.le_refl _⟩, by repeat (first | exact Drawn0.refl _ | apply Drawn0.step)⟩)
                                  · rw [if_neg c35] at H
                                    have c35b0 : ((rd l0 (ji33)) == 43) = false := beq_eq_false_iff_ne.mpr c35
                                    have c35b1 : ((rd l0 (ji33)) != 43) = true := bne_iff_ne.mpr c35
                                    have H' := Aside0.mk H
                                    clear H
                                    have p168 : 0 ≤ ((ji33) : Int) := of_decide_eq_true (by first | (with_reducible assumption) | assumption)
                                    have q168 : (ji33) < (l0.length : Int) := of_decide_eq_true (by first | (with_reducible assumption) | assumption)
                                    obtain ⟨ad168, e168, hx168_0⟩ := Kd.at_int HR0.out (ji33) p168 q168
                                    cases e168
                                    replace p168 := eq_true p168
                                    replace q168 := eq_true q168
                                    have p169 : 0 ≤ ((ji33) : Int) := of_decide_eq_true (by first | (with_reducible assumption) | assumption)
                                    have q169 : (ji33) < (l0.length : Int) := of_decide_eq_true (by first | (with_reducible assumption) | assumption)
                                    obtain ⟨ad169, e169, hx169_0⟩ := Kd.at_int HR0.out (ji33) p169 q169
                                    obtain rfl : ad168 = ad169 := (by injection e169)
                                    replace p169 := eq_true p169
                                    replace q169 := eq_true q169
                                    go_wp2
                                    first | (go_meet) | (subst hji33; go_meet)
                                    case rel => first | (exact ⟨_, (((rd l0 (ji33)) == 45)), (by first | rfl | (simp; done) | (simp only [← hji33] <;> (first | rfl | simp)) | (simp [*]; done) | (simp [wrap64]; done)), H', ⟨by have := HJ1.out; have := HJ3.out; have := HJ5.out; have := HJ13.out; have := HJ16.out; have := HJ25.out; first | omega | exact Nat.le_refl _⟩, by repeat (first | exact Drawn0.refl _ | apply Drawn0.step)⟩) | (subst hji33; exact ⟨_, (((rd l0 ((wrap64 (x3_16 + 1)))) == 45)), (by first | rfl | (simp; done) | (simp only [← hji33] <;> (first | rfl | simp)) | (simp [*]; done) | (simp [wrap64]; done)), H', ⟨by have := HJ1.out; have := HJ3.out; have := HJ5.out; have := HJ13.out; have := HJ16.out; have := HJ25.out; first | omega | exact Nat.le_refl _⟩, by repeat (first | exact Drawn0.refl _ | apply Drawn0.step)⟩) | (exact ⟨_, (((rd l0 ((wrap64 (x3_16 + 1)))) == 45)), (by first | rfl | (simp; done) | (simp only [← hji33] <;> (first | rfl | simp)) | (simp [*]; done) | (simp [wrap64]; done)), H', ⟨by have := HJ1.out; have := HJ3.out; have := HJ5.out; have := HJ13.out; have := HJ16.out; have := HJ25.out; first | omega | exact Nat.le_refl _⟩, by repeat (first | exact Drawn0.refl _ | apply Drawn0.step)⟩)
                                · rw [if_neg c34] at H
                                  exact absurd H (by simp)
                              · rw [if_neg c32] at H
                                have c32b0 : decide ((wrap64 (x3_16 + 1)) < (l0.length : Int)) = false := decide_eq_false c32
                                clear c32
                                (first | rw [c32b0] | (simp only [i64_w, i32_w]; rw [c32b0]) | skip)
                                have H' := Aside0.mk H
                                clear H
                                go_wp2
                                go_meet
                                case rel => exact ⟨_, (false), (by first | rfl | (simp; done) | (simp [*]; done) | (simp [wrap64]; done)), H', ⟨by have := HJ1.out; have := HJ3.out; have := HJ5.out; have := HJ13.out; have := HJ16.out; have := HJ25.out; first | omega | exact Nat.le_refl _⟩, by repeat (first | exact Drawn0.refl _ | apply Drawn0.step)⟩
                            case rest =>
                              clear HC31
                              try clear c1
                              try clear p1
                              try clear q1
                              try clear hx1
                              try clear qi1
                              try clear c2
                              try clear p2
                              try clear c3
                              try clear c3b0
                              try clear c3b1
                              try clear c5
                              try clear p6
                              try clear c7
                              try clear c7b0
                              try clear c7b1
                              try clear c8
                              try clear c8b0
                              try clear c9
                              try clear c9b0
                              try clear c10
                              try clear c10b0
                              try clear c10b1
                              try clear c11
                              try clear c11b0
                              try clear c12
                              try clear c12b0
                              try clear c13
                              try clear c15
                              try clear c15b0
                              try clear p15
                              try clear q15
                              try clear hx15
                              try clear qi15
                              try clear c16
                              try clear c16b0
                              try clear p16
                              try clear q16
                              try clear hx16
                              try clear c18
                              try clear c19
                              try clear c19b0
                              try clear c19b1
                              try clear c21
                              try clear c21b0
                              try clear c22
                              try clear c22b0
                              try clear c23
                              try clear c23b0
                              try clear c24
                              try clear c24b0
                              try clear c25
                              try clear c27
                              try clear c27b0
                              try clear c28
                              try clear c28b0
                              try clear c29
                              try clear c29b0
                              try clear c29b1
                              try clear c30
                              try clear c32
                              try clear c32b0
                              try clear c34
                              try clear c34b0
                              try clear c35
                              try clear c35b0
                              try clear c35b1
                              try clear hx157_0
                              try clear hx158_0
                              try clear hx159_0
                              try clear hx160_0
                              try clear hx162_0
                              try clear hx163_0
                              try clear hx164_0
                              try clear hx166_0
                              try clear hx167_0
                              try clear hx168_0
                              try clear hx169_0
                              try clear p1
                              try clear p15
                              try clear p157
                              try clear p158
                              try clear p159
                              try clear p16
                              try clear p160
                              try clear p162
                              try clear p163
                              try clear p164
                              try clear p166
                              try clear p167
                              try clear p168
                              try clear p169
                              try clear p2
                              try clear p6
                              try clear q1
                              try clear q15
                              try clear q157
                              try clear q158
                              try clear q159
                              try clear q16
                              try clear q160
                              try clear q162
                              try clear q163
                              try clear q164
                              try clear q166
                              try clear q167
                              try clear q168
                              try clear q169
                              obtain ⟨kq, x119_30, rfl, HA, HJ30, ⟨mc30, rfl⟩⟩ := hcut
                              cases kq with
                              | zero => exact absurd HA.out (by simp [gojsonnum_End.j6])
                              | succ kj30 =>
                                have H := HA.out
                                clear HA
                                simp only [gojsonnum_End.j6] at H
                                have HC36 := Aside0.mk H
                                clear H
                                go_upto_if 119 with (fail)
                                go_cut [3] (fun v3 wc => ∃ (kq : Nat) (x3_35 : Int), v3 = .int .i64 x3_35 ∧ Aside0 (gojsonnum_End.j7 kq l0 x3_35 = some r) ∧ Aside0 (kq ≤ kj30) ∧ Drawn0 w wc)
                                case first =>
                                  have H := HC36.out
                                  clear HC36
                                  by_cases c37 : x119_30 = true
                                  · subst c37
                                    have H1 : (gojsonnum_End.j7 kj30 l0 (wrap64 ((wrap64 (x3_16 + 1)) + 1))) = some r := by rw [if_pos rfl] at H; exact H
                                    clear H
                                    have H := H1
                                    clear H1
                                    have H' := Aside0.mk H
                                    clear H
                                    go_wp2
                                    go_meet
                                    case rel => exact ⟨_, (wrap64 ((wrap64 (x3_16 + 1)) + 1)), (by first | rfl | (simp; done) | (simp [*]; done) | (simp [wrap64]; done)), H', ⟨by have := HJ1.out; have := HJ3.out; have := HJ5.out; have := HJ13.out; have := HJ16.out; have := HJ25.out; have := HJ30.out; first | omega | exact Nat.le_refl _⟩, by repeat (first | exact Drawn0.refl _ | apply Drawn0.step)⟩
                                  · replace c37 := Bool.eq_false_iff.mpr c37
                                    subst c37
                                    have H1 : (gojsonnum_End.j7 kj30 l0 (wrap64 (x3_16 + 1))) = some r := by rw [if_neg (show ¬ (false = true) by decide)] at H; exact H
                                    clear H
                                    have H := H1
                                    clear H1
                                    have H' := Aside0.mk H
                                    clear H
                                    go_wp2
                                    go_meet
                                    case rel => exact ⟨_, ((wrap64 (x3_16 + 1))), (by first | rfl | (simp; done) | (simp [*]; done) | (simp [wrap64]; done)), H', ⟨by have := HJ1.out; have := HJ3.out; have := HJ5.out; have := HJ13.out; have := HJ16.out; have := HJ25.out; have := HJ30.out; first | omega | exact Nat.le_refl _⟩, by repeat (first | exact Drawn0.refl _ | apply Drawn0.step)⟩
                                case rest =>
                                  clear HC36
                                  try clear c1
                                  try clear p1
                                  try clear q1
                                  try clear hx1
                                  try clear qi1
                                  try clear c2
                                  try clear p2
                                  try clear c3
                                  try clear c3b0
                                  try clear c3b1
                                  try clear c5
                                  try clear p6
                                  try clear c7
                                  try clear c7b0
                                  try clear c7b1
                                  try clear c8
                                  try clear c8b0
                                  try clear c9
                                  try clear c9b0
                                  try clear c10
                                  try clear c10b0
                                  try clear c10b1
                                  try clear c11
                                  try clear c11b0
                                  try clear c12
                                  try clear c12b0
                                  try clear c13
                                  try clear c15
                                  try clear c15b0
                                  try clear p15
                                  try clear q15
                                  try clear hx15
                                  try clear qi15
                                  try clear c16
                                  try clear c16b0
                                  try clear p16
                                  try clear q16
                                  try clear hx16
                                  try clear c18
                                  try clear c19
                                  try clear c19b0
                                  try clear c19b1
                                  try clear c21
                                  try clear c21b0
                                  try clear c22
                                  try clear c22b0
                                  try clear c23
                                  try clear c23b0
                                  try clear c24
                                  try clear c24b0
                                  try clear c25
                                  try clear c27
                                  try clear c27b0
                                  try clear c28
                                  try clear c28b0
                                  try clear c29
                                  try clear c29b0
                                  try clear c29b1
                                  try clear c30
                                  try clear c32
                                  try clear c32b0
                                  try clear c34
                                  try clear c34b0
                                  try clear c35
                                  try clear c35b0
                                  try clear c35b1
                                  try clear c37
                                  try clear hx157_0
                                  try clear hx158_0
                                  try clear hx159_0
                                  try clear hx160_0
                                  try clear hx162_0
                                  try clear hx163_0
                                  try clear hx164_0
                                  try clear hx166_0
                                  try clear hx167_0
                                  try clear hx168_0
                                  try clear hx169_0
                                  try clear p1
                                  try clear p15
                                  try clear p157
                                  try clear p158
                                  try clear p159
                                  try clear p16
                                  try clear p160
                                  try clear p162
                                  try clear p163
                                  try clear p164
                                  try clear p166
                                  try clear p167
                                  try clear p168
                                  try clear p169
                                  try clear p2
                                  try clear p6
                                  try clear q1
                                  try clear q15
                                  try clear q157
                                  try clear q158
                                  try clear q159
                                  try clear q16
                                  try clear q160
                                  try clear q162
                                  try clear q163
                                  try clear q164
                                  try clear q166
                                  try clear q167
                                  try clear q168
                                  try clear q169
                                  obtain ⟨kq, x3_35, rfl, HA, HJ35, ⟨mc35, rfl⟩⟩ := hcut
                                  cases kq with
                                  | zero => exact absurd HA.out (by simp [gojsonnum_End.j7])
                                  | succ kj35 =>
                                    have H := HA.out
                                    clear HA
                                    simp only [gojsonnum_End.j7] at H
                                    have HC38 := Aside0.mk H
                                    clear H
                                    go_upto_region 20 with (fail)
                                    go_cut [139] (fun v139 wc => ∃ (kq : Nat) (x139_37 : Bool), v139 = .bool x139_37 ∧ Aside0 (gojsonnum_End.j8 kq l0 x3_35 x139_37 = some r) ∧ Aside0 (kq ≤ kj35) ∧ Drawn0 w wc)
                                    case first =>
                                      have H := HC38.out
                                      clear HC38
                                      by_cases c39 : x3_35 = (l0.length : Int)
                                      · rw [if_pos c39] at H
                                        have c39b0 : (x3_35 == (l0.length : Int)) = true := beq_iff_eq.mpr c39
                                        have c39b1 : (x3_35 != (l0.length : Int)) = false := bne_eq_false_iff_eq.mpr c39
                                        clear c39
                                        (first | rw [c39b0] | (simp only [i64_w, i32_w]; rw [c39b0]) | skip)
                                        have H' := Aside0.mk H
                                        clear H
                                        go_wp2
                                        go_meet
                                        case rel => exact ⟨_, (true), (by first | rfl | (simp; done) | (simp [*]; done) | (simp [wrap64]; done)), H', ⟨by have := HJ1.out; have := HJ3.out; have := HJ5.out; have := HJ13.out; have := HJ16.out; have := HJ25.out; have := HJ30.out; have := HJ35.out; first | omega | exact Nat.le_refl _⟩, by repeat (first | exact Drawn0.refl _ | apply Drawn0.step)⟩
                                      · rw [if_neg c39] at H
                                        have c39b0 : (x3_35 == (l0.length : Int)) = false := beq_eq_false_iff_ne.mpr c39
                                        have c39b1 : (x3_35 != (l0.length : Int)) = true := bne_iff_ne.mpr c39
                                        (first | rw [c39b0] | (simp only [i64_w, i32_w]; rw [c39b0]) | skip)
                                        by_cases c40 : 0 ≤ x3_35
                                        · rw [if_pos c40] at H
                                          have c40b0 : decide (0 ≤ x3_35) = true := decide_eq_true c40
                                          clear c40
                                          by_cases c41 : x3_35 < (l0.length : Int)
                                          · rw [if_pos c41] at H
                                            have c41b0 : decide (x3_35 < (l0.length : Int)) = true := decide_eq_true c41
                                            clear c41
                                            by_cases c42 : (rd l0 x3_35) < 48
                                            · rw [if_pos c42] at H
                                              have c42b0 : decide ((rd l0 x3_35) < 48) = true := decide_eq_true c42
                                              clear c42
                                              have H' := Aside0.mk H
                                              clear H
                                              have p170 : 0 ≤ (x3_35 : Int) := of_decide_eq_true (by first | (with_reducible assumption) | assumption)
                                              have q170 : x3_35 < (l0.length : Int) := of_decide_eq_true (by first | (with_reducible assumption) | assumption)
                                              obtain ⟨ad170, e170, hx170_0⟩ := Kd.at_int HR0.out x3_35 p170 q170
                                              cases e170
                                              replace p170 := eq_true p170
                                              replace q170 := eq_true q170
                                              go_wp2
                                              go_meet
                                              case rel => exact ⟨_, (true), (by first | rfl | (simp; done) | (simp [*]; done) | (simp [wrap64]; done)), H', ⟨by have := HJ1.out; have := HJ3.out; have := HJ5.out; have := HJ13.out; have := HJ16.out; have := HJ25.out; have := HJ30.out; have := HJ35.out; first | omega | exact Nat.le_refl _⟩, by repeat (first | exact Drawn0.refl _ | apply Drawn0.step)⟩
                                            · rw [if_neg c42] at H
                                              have c42b0 : decide ((rd l0 x3_35) < 48) = false := decide_eq_false c42
                                              clear c42
                                              have H' := Aside0.mk H
                                              clear H
                                              have p170 : 0 ≤ (x3_35 : Int) := of_decide_eq_true (by first | (with_reducible assumption) | assumption)
                                              have q170 : x3_35 < (l0.length : Int) := of_decide_eq_true (by first | (with_reducible assumption) | assumption)
                                              obtain ⟨ad170, e170, hx170_0⟩ := Kd.at_int HR0.out x3_35 p170 q170
                                              cases e170
                                              replace p170 := eq_true p170
                                              replace q170 := eq_true q170
                                              have p171 : 0 ≤ (x3_35 : Int) := of_decide_eq_true (by first | (with_reducible assumption) | assumption)
                                              have q171 : x3_35 < (l0.length : Int) := of_decide_eq_true (by first | (with_reducible assumption) | assumption)
                                              obtain ⟨ad171, e171, hx171_0⟩ := Kd.at_int HR0.out x3_35 p171 q171
                                              obtain rfl : ad170 = ad171 := (by injection e171)
                                              replace p171 := eq_true p171
                                              replace q171 := eq_true q171
                                              go_wp2
                                              go_meet
                                              case rel => exact ⟨_, (decide (57 < (rd l0 x3_35))), (by first | rfl | (simp; done) | (simp [*]; done) | (simp [wrap64]; done)), H', ⟨by have := HJ1.out; have := HJ3.out; have := HJ5.out; have := HJ13.out; have := HJ16.out; have := HJ25.out; have := HJ30.out; have := HJ35.out; first | omega | exact Nat.le_refl _⟩, by repeat (first | exact Drawn0.refl _ | apply Drawn0.step)⟩
                                          · rw [if_neg c41] at H
                                            exact absurd H (by simp)
                                        · rw [if_neg c40] at H
                                          exact absurd H (by simp)
                                    case rest =>
                                      clear HC38
                                      try clear c1
                                      try clear p1
                                      try clear q1
                                      try clear hx1
                                      try clear qi1
                                      try clear c2
                                      try clear p2
                                      try clear c3
                                      try clear c3b0
                                      try clear c3b1
                                      try clear c4
                                      try clear c5
                                      try clear p6
                                      try clear c7
                                      try clear c7b0
                                      try clear c7b1
                                      try clear c8
                                      try clear c8b0
                                      try clear c9
                                      try clear c9b0
                                      try clear c10
                                      try clear c10b0
                                      try clear c10b1
                                      try clear c11
                                      try clear c11b0
                                      try clear c12
                                      try clear c12b0
                                      try clear c13
                                      try clear c15
                                      try clear c15b0
                                      try clear p15
                                      try clear q15
                                      try clear hx15
                                      try clear qi15
                                      try clear c16
                                      try clear c16b0
                                      try clear p16
                                      try clear q16
                                      try clear hx16
                                      try clear p17
                                      try clear q17
                                      try clear hx17
                                      try clear c18
                                      try clear c19
                                      try clear c19b0
                                      try clear c19b1
                                      try clear c21
                                      try clear c21b0
                                      try clear c22
                                      try clear c22b0
                                      try clear c23
                                      try clear c23b0
                                      try clear c24
                                      try clear c24b0
                                      try clear c25
                                      try clear c27
                                      try clear c27b0
                                      try clear c28
                                      try clear c28b0
                                      try clear c29
                                      try clear c29b0
                                      try clear c29b1
                                      try clear c30
                                      try clear c32
                                      try clear c32b0
                                      try clear c34
                                      try clear c34b0
                                      try clear c35
                                      try clear c35b0
                                      try clear c35b1
                                      try clear c37
                                      try clear c39
                                      try clear c39b0
                                      try clear c39b1
                                      try clear c40
                                      try clear c40b0
                                      try clear c41
                                      try clear c41b0
                                      try clear c42
                                      try clear c42b0
                                      try clear hx157_0
                                      try clear hx158_0
                                      try clear hx159_0
                                      try clear hx160_0
                                      try clear hx162_0
                                      try clear hx163_0
                                      try clear hx164_0
                                      try clear hx166_0
                                      try clear hx167_0
                                      try clear hx168_0
                                      try clear hx169_0
                                      try clear hx170_0
                                      try clear hx171_0
                                      try clear p1
                                      try clear p15
                                      try clear p157
                                      try clear p158
                                      try clear p159
                                      try clear p16
                                      try clear p160
                                      try clear p162
                                      try clear p163
                                      try clear p164
                                      try clear p166
                                      try clear p167
                                      try clear p168
                                      try clear p169
                                      try clear p170
                                      try clear p171
                                      try clear p2
                                      try clear p6
                                      try clear q1
                                      try clear q15
                                      try clear q157
                                      try clear q158
                                      try clear q159
                                      try clear q16
                                      try clear q160
                                      try clear q162
                                      try clear q163
                                      try clear q164
                                      try clear q166
                                      try clear q167
                                      try clear q168
                                      try clear q169
                                      try clear q170
                                      try clear q171
                                      obtain ⟨kq, x139_37, rfl, HA, HJ37, ⟨mc37, rfl⟩⟩ := hcut
                                      cases kq with
                                      | zero => exact absurd HA.out (by simp [gojsonnum_End.j8])
                                      | succ kj37 =>
                                        have H := HA.out
                                        clear HA
                                        simp only [gojsonnum_End.j8] at H
                                        by_cases c43 : x139_37 = true
                                        · subst c43
                                          have H1 : (some (-1)) = some r := by rw [if_pos rfl] at H; exact H
                                          clear H
                                          have H := H1
                                          clear H1
                                          obtain rfl := Option.some.inj H
                                          go_wp2
                                          go_ret
                                          exact ⟨by first | rfl | (simp; done) | (simp [*]; done) | (simp [wrap64]; done), by repeat (first | exact Drawn0.refl _ | apply Drawn0.step)⟩
                                        · replace c43 := Bool.eq_false_iff.mpr c43
                                          subst c43
                                          have H1 : ((gojsonnum_ScanDigits.f kj37 l0 (wrap64 (x3_35 + 1))).bind fun t172 => (if t172 = (l0.length : Int) then (some (-1)) else (some t172))) = some r := by rw [if_neg (show ¬ (false = true) by decide)] at H; exact H
                                          clear H
                                          have H := H1
                                          clear H1
                                          replace H := Option.bind_eq_some_iff.mp H
                                          obtain ⟨t172, A440, H⟩ := H
                                          replace H : (if t172 = (l0.length : Int) then (some (-1)) else (some t172)) = some r := H
                                          have A44 := Aside0.mk A440
                                          clear A440
                                          by_cases c45 : t172 = (l0.length : Int)
                                          · rw [if_pos c45] at H
                                            have c45b0 : (t172 == (l0.length : Int)) = true := beq_iff_eq.mpr c45
                                            have c45b1 : (t172 != (l0.length : Int)) = false := bne_eq_false_iff_eq.mpr c45
                                            clear c45
                                            obtain rfl := Option.some.inj H
                                            go_wp2_with (first | ((with_reducible refine gate_callee (f := 15) rfl ?_); refine goesL_ (some 143) rfl rfl Tryd.func15 (by kernel_rfl) rfl #[.slice A0 l0.length c0, .int .i64 (wrap64 (x3_35 + 1))] rfl (by (try simp only [List.map_toArray, List.map_cons, List.map_nil]); first | done | rfl | (simp only [List.length_drop, List.length_take]; rfl)) ?_; (with_reducible refine (gojsonnum_ScanDigits.calls kj37 _ _ l0 (wrap64 (x3_35 + 1)) t172 _ ?side1 ?side2 ?side3 A44.out).mono ?_); (case side1 => repeat (first | exact HR0.out | (with_reducible refine Kd.C_alloc ?_ _) | (with_reducible refine Kd.C_drewN ?_ _) | (with_reducible refine Kd.C_drew ?_))); (case side2 => exact HC0.out); (case side3 => first | exact HG.out | exact Glob.drawn HG.out (by repeat (first | exact Drawn0.refl _ | apply Drawn0.step))); rintro e w' ⟨rfl, ⟨nd, rfl⟩⟩; refine ⟨_, rfl, ?_⟩))
                                            go_ret
                                            exact ⟨by first | rfl | (simp; done) | (simp [*]; done) | (simp [wrap64]; done), by repeat (first | exact Drawn0.refl _ | apply Drawn0.step)⟩
                                          · rw [if_neg c45] at H
                                            have c45b0 : (t172 == (l0.length : Int)) = false := beq_eq_false_iff_ne.mpr c45
                                            have c45b1 : (t172 != (l0.length : Int)) = true := bne_iff_ne.mpr c45
                                            obtain rfl := Option.some.inj H
                                            go_wp2_with (first | ((with_reducible refine gate_callee (f := 15) rfl ?_); refine goesL_ (some 143) rfl rfl Tryd.func15 (by kernel_rfl) rfl #[.slice A0 l0.length c0, .int .i64 (wrap64 (x3_35 + 1))] rfl (by (try simp only [List.map_toArray, List.map_cons, List.map_nil]); first | done | rfl | (simp only [List.length_drop, List.length_take]; rfl)) ?_; (with_reducible refine (gojsonnum_ScanDigits.calls kj37 _ _ l0 (wrap64 (x3_35 + 1)) t172 _ ?side1 ?side2 ?side3 A44.out).mono ?_); (case side1 => repeat (first | exact HR0.out | (with_reducible refine Kd.C_alloc ?_ _) | (with_reducible refine Kd.C_drewN ?_ _) | (with_reducible refine Kd.C_drew ?_))); (case side2 => exact HC0.out); (case side3 => first | exact HG.out | exact Glob.drawn HG.out (by repeat (first | exact Drawn0.refl _ | apply Drawn0.step))); rintro e w' ⟨rfl, ⟨nd, rfl⟩⟩; refine ⟨_, rfl, ?_⟩))
                                            go_ret
                                            exact ⟨by first | rfl | (simp; done) | (simp [*]; done) | (simp [wrap64]; done), by repeat (first | exact Drawn0.refl _ | apply Drawn0.step)⟩
                          · replace c30 := Bool.eq_false_iff.mpr c30
                            subst c30
                            have H1 : (if x3_16 = (l0.length : Int) then (some (-1)) else (some x3_16)) = some r := by rw [if_neg (show ¬ (false = true) by decide)] at H; exact H
                            clear H
                            have H := H1
                            clear H1
                            by_cases c46 : x3_16 = (l0.length : Int)
                            · rw [if_pos c46] at H
                              have c46b0 : (x3_16 == (l0.length : Int)) = true := beq_iff_eq.mpr c46
                              have c46b1 : (x3_16 != (l0.length : Int)) = false := bne_eq_false_iff_eq.mpr c46
                              clear c46
                              obtain rfl := Option.some.inj H
                              go_wp2
                              go_ret
                              exact ⟨by first | rfl | (simp; done) | (simp [*]; done) | (simp [wrap64]; done), by repeat (first | exact Drawn0.refl _ | apply Drawn0.step)⟩
                            · rw [if_neg c46] at H
                              have c46b0 : (x3_16 == (l0.length : Int)) = false := beq_eq_false_iff_ne.mpr c46
                              have c46b1 : (x3_16 != (l0.length : Int)) = true := bne_iff_ne.mpr c46
                              obtain rfl := Option.some.inj H
                              go_wp2
                              go_ret
                              exact ⟨by first | rfl | (simp; done) | (simp [*]; done) | (simp [wrap64]; done), by repeat (first | exact Drawn0.refl _ | apply Drawn0.step)⟩

end Go.Proofs.YtoigokgechcaiaaDoor.QNm
