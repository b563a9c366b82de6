-- Written by a program of this session (wip/tools/myprint.py) out of Lean's own print of the translation.
import Derived.Test.YtoigokgechcaiaaDoorQNm0
import Derived.Test.YtoigokgechcaiaaDoorQNm1
namespace Go.Proofs.YtoigokgechcaiaaDoor.QNm
open Go.RowKit Go.Proofs.YtoigokgechcaiaaDoorW.PrintWords Go.Proofs.YtoigokgechcaiaaDoorW.PrintLast Go.Proofs.YtoigokgechcaiaaDoorW.PrintMore
attribute [local go_sem] max2_int min2_int max_two min_two max_three min_three max_four min_four   -- for this text's walks alone
open Go.Proofs.YtoigokgechcaiaaDoor.Tab
set_option linter.unusedVariables false
set_option linter.unusedSimpArgs false

/-! ### spec_ScanNumber8: function 11 -/
mutual
def spec_ScanNumber8.j0 : Nat → List Int → Int → Bool → Option (Int × Int)
  | 0, _, _, _ => none
  | k + 1, x0, x4, x16 => if x16 = true then (spec_ScanNumber8.j1 k x0 (wrap64 (x4 + 1))) else (spec_ScanNumber8.j1 k x0 x4)
def spec_ScanNumber8.j1 : Nat → List Int → Int → Option (Int × Int)
  | 0, _, _ => none
  | k + 1, x0, x4 => (spec_digits8.f k x0 x4).bind fun t122 => (if t122 = x4 then (some (x4, 1)) else (if 0 ≤ x4 then (if x4 < (x0.length : Int) then (if (rd x0 x4) = 48 then (spec_ScanNumber8.j2 k x0 (wrap64 (x4 + 1))) else (spec_ScanNumber8.j2 k x0 t122)) else (none)) else (none)))
def spec_ScanNumber8.j2 : Nat → List Int → Int → Option (Int × Int)
  | 0, _, _ => none
  | k + 1, x0, x5 => if x5 < (x0.length : Int) then (if 0 ≤ x5 then (spec_ScanNumber8.j3 k x0 x5 ((rd x0 x5) == 46)) else (none)) else (spec_ScanNumber8.j3 k x0 x5 false)
def spec_ScanNumber8.j3 : Nat → List Int → Int → Bool → Option (Int × Int)
  | 0, _, _, _ => none
  | k + 1, x0, x5, x43 => if x43 = true then ((spec_digits8.f k x0 (wrap64 (x5 + 1))).bind fun t125 => (if t125 = (wrap64 (x5 + 1)) then (some (wrap64 (x5 + 1), 2)) else (spec_ScanNumber8.j4 k x0 t125))) else (spec_ScanNumber8.j4 k x0 x5)
def spec_ScanNumber8.j4 : Nat → List Int → Int → Option (Int × Int)
  | 0, _, _ => none
  | k + 1, x0, x5 => if x5 < (x0.length : Int) then (if 0 ≤ x5 then (if (rd x0 x5) = 101 then (spec_ScanNumber8.j5 k x0 x5 true) else (spec_ScanNumber8.j5 k x0 x5 ((rd x0 x5) == 69))) else (none)) else (spec_ScanNumber8.j5 k x0 x5 false)
def spec_ScanNumber8.j5 : Nat → List Int → Int → Bool → Option (Int × Int)
  | 0, _, _, _ => none
  | k + 1, x0, x5, x71 => if x71 = true then (if (wrap64 (x5 + 1)) < (x0.length : Int) then (if 0 ≤ (wrap64 (x5 + 1)) then (if (rd x0 (wrap64 (x5 + 1))) = 43 then (spec_ScanNumber8.j6 k x0 (wrap64 (x5 + 1)) true) else (spec_ScanNumber8.j6 k x0 (wrap64 (x5 + 1)) ((rd x0 (wrap64 (x5 + 1))) == 45))) else (none)) else (spec_ScanNumber8.j6 k x0 (wrap64 (x5 + 1)) false)) else (some (x5, 0))
def spec_ScanNumber8.j6 : Nat → List Int → Int → Bool → Option (Int × Int)
  | 0, _, _, _ => none
  | k + 1, x0, x4, x91 => if x91 = true then ((spec_digits8.f k x0 (wrap64 (x4 + 1))).bind fun t130 => (if t130 = (wrap64 (x4 + 1)) then (some (wrap64 (x4 + 1), 3)) else (some (t130, 0)))) else ((spec_digits8.f k x0 x4).bind fun t131 => (if t131 = x4 then (some (x4, 3)) else (some (t131, 0))))
end
def spec_ScanNumber8.f (k : Nat) (l0 : List Int) : Option (Int × Int) := if 0 < (l0.length : Int) then (spec_ScanNumber8.j0 k l0 0 ((rd l0 0) == 45)) else (spec_ScanNumber8.j0 k l0 0 false)
theorem spec_ScanNumber8.mono_l : ∀ k, (∀ y0 y1 y2, LeO (spec_ScanNumber8.j0 k y0 y1 y2) (spec_ScanNumber8.j0 (k + 1) y0 y1 y2)) ∧ (∀ y0 y1, LeO (spec_ScanNumber8.j1 k y0 y1) (spec_ScanNumber8.j1 (k + 1) y0 y1)) ∧ (∀ y0 y1, LeO (spec_ScanNumber8.j2 k y0 y1) (spec_ScanNumber8.j2 (k + 1) y0 y1)) ∧ (∀ y0 y1 y2, LeO (spec_ScanNumber8.j3 k y0 y1 y2) (spec_ScanNumber8.j3 (k + 1) y0 y1 y2)) ∧ (∀ y0 y1, LeO (spec_ScanNumber8.j4 k y0 y1) (spec_ScanNumber8.j4 (k + 1) y0 y1)) ∧ (∀ y0 y1 y2, LeO (spec_ScanNumber8.j5 k y0 y1 y2) (spec_ScanNumber8.j5 (k + 1) y0 y1 y2)) ∧ (∀ y0 y1 y2, LeO (spec_ScanNumber8.j6 k y0 y1 y2) (spec_ScanNumber8.j6 (k + 1) y0 y1 y2))
  | 0 => ⟨fun _ _ _ r h => by simp [spec_ScanNumber8.j0] at h, fun _ _ r h => by simp [spec_ScanNumber8.j1] at h, fun _ _ r h => by simp [spec_ScanNumber8.j2] at h, fun _ _ _ r h => by simp [spec_ScanNumber8.j3] at h, fun _ _ r h => by simp [spec_ScanNumber8.j4] at h, fun _ _ _ r h => by simp [spec_ScanNumber8.j5] at h, fun _ _ _ r h => by simp [spec_ScanNumber8.j6] at h⟩
  | k + 1 => by
    obtain ⟨ih0, ih1, ih2, ih3, ih4, ih5, ih6⟩ := spec_ScanNumber8.mono_l k
    refine ⟨?_, ?_, ?_, ?_, ?_, ?_, ?_⟩
    · intro y0 y1 y2
      unfold spec_ScanNumber8.j0
      repeat' first
      | (with_reducible exact ih0 _ _ _)
      | (with_reducible exact ih1 _ _)
      | (with_reducible exact ih2 _ _)
      | (with_reducible exact ih3 _ _ _)
      | (with_reducible exact ih4 _ _)
      | (with_reducible exact ih5 _ _ _)
      | (with_reducible exact ih6 _ _ _)
      | (with_reducible exact spec_digits8.mono _ _ _)
      | (with_reducible exact LeO.refl _)
      | (with_reducible exact LeO.none _)
      | (with_reducible refine LeO.ite ?_ ?_)
      | (with_reducible refine LeO.bind ?_ (fun _ => ?_))
      | exact ih0 _ _ _
      | exact ih1 _ _
      | exact ih2 _ _
      | exact ih3 _ _ _
      | exact ih4 _ _
      | exact ih5 _ _ _
      | exact ih6 _ _ _
      | exact spec_digits8.mono _ _ _
      | exact LeO.none _
      | refine LeO.ite ?_ ?_
      | refine LeO.bind ?_ (fun _ => ?_)
    · intro y0 y1
      unfold spec_ScanNumber8.j1
      repeat' first
      | (with_reducible exact ih0 _ _ _)
      | (with_reducible exact ih1 _ _)
      | (with_reducible exact ih2 _ _)
      | (with_reducible exact ih3 _ _ _)
      | (with_reducible exact ih4 _ _)
      | (with_reducible exact ih5 _ _ _)
      | (with_reducible exact ih6 _ _ _)
      | (with_reducible exact spec_digits8.mono _ _ _)
      | (with_reducible exact LeO.refl _)
      | (with_reducible exact LeO.none _)
      | (with_reducible refine LeO.ite ?_ ?_)
      | (with_reducible refine LeO.bind ?_ (fun _ => ?_))
      | exact ih0 _ _ _
      | exact ih1 _ _
      | exact ih2 _ _
      | exact ih3 _ _ _
      | exact ih4 _ _
      | exact ih5 _ _ _
      | exact ih6 _ _ _
      | exact spec_digits8.mono _ _ _
      | exact LeO.none _
      | refine LeO.ite ?_ ?_
      | refine LeO.bind ?_ (fun _ => ?_)
    · intro y0 y1
      unfold spec_ScanNumber8.j2
      repeat' first
      | (with_reducible exact ih0 _ _ _)
      | (with_reducible exact ih1 _ _)
      | (with_reducible exact ih2 _ _)
      | (with_reducible exact ih3 _ _ _)
      | (with_reducible exact ih4 _ _)
      | (with_reducible exact ih5 _ _ _)
      | (with_reducible exact ih6 _ _ _)
      | (with_reducible exact spec_digits8.mono _ _ _)
      | (with_reducible exact LeO.refl _)
      | (with_reducible exact LeO.none _)
      | (with_reducible refine LeO.ite ?_ ?_)
      | (with_reducible refine LeO.bind ?_ (fun _ => ?_))
      | exact ih0 _ _ _
      | exact ih1 _ _
      | exact ih2 _ _
      | exact ih3 _ _ _
      | exact ih4 _ _
      | exact ih5 _ _ _
      | exact ih6 _ _ _
      | exact spec_digits8.mono _ _ _
      | exact LeO.none _
      | refine LeO.ite ?_ ?_
      | refine LeO.bind ?_ (fun _ => ?_)
    · intro y0 y1 y2
      unfold spec_ScanNumber8.j3
      repeat' first
      | (with_reducible exact ih0 _ _ _)
      | (with_reducible exact ih1 _ _)
      | (with_reducible exact ih2 _ _)
      | (with_reducible exact ih3 _ _ _)
      | (with_reducible exact ih4 _ _)
      | (with_reducible exact ih5 _ _ _)
      | (with_reducible exact ih6 _ _ _)
      | (with_reducible exact spec_digits8.mono _ _ _)
      | (with_reducible exact LeO.refl _)
      | (with_reducible exact LeO.none _)
      | (with_reducible refine LeO.ite ?_ ?_)
      | (with_reducible refine LeO.bind ?_ (fun _ => ?_))
      | exact ih0 _ _ _
      | exact ih1 _ _
      | exact ih2 _ _
      | exact ih3 _ _ _
      | exact ih4 _ _
      | exact ih5 _ _ _
      | exact ih6 _ _ _
      | exact spec_digits8.mono _ _ _
      | exact LeO.none _
      | refine LeO.ite ?_ ?_
      | refine LeO.bind ?_ (fun _ => ?_)
    · intro y0 y1
      unfold spec_ScanNumber8.j4
      repeat' first
      | (with_reducible exact ih0 _ _ _)
      | (with_reducible exact ih1 _ _)
      | (with_reducible exact ih2 _ _)
      | (with_reducible exact ih3 _ _ _)
      | (with_reducible exact ih4 _ _)
      | (with_reducible exact ih5 _ _ _)
      | (with_reducible exact ih6 _ _ _)
      | (with_reducible exact spec_digits8.mono _ _ _)
      | (with_reducible exact LeO.refl _)
      | (with_reducible exact LeO.none _)
      | (with_reducible refine LeO.ite ?_ ?_)
      | (with_reducible refine LeO.bind ?_ (fun _ => ?_))
      | exact ih0 _ _ _
      | exact ih1 _ _
      | exact ih2 _ _
      | exact ih3 _ _ _
      | exact ih4 _ _
      | exact ih5 _ _ _
      | exact ih6 _ _ _
      | exact spec_digits8.mono _ _ _
      | exact LeO.none _
      | refine LeO.ite ?_ ?_
      | refine LeO.bind ?_ (fun _ => ?_)
    · intro y0 y1 y2
      unfold spec_ScanNumber8.j5
      repeat' first
      | (with_reducible exact ih0 _ _ _)
      | (with_reducible exact ih1 _ _)
      | (with_reducible exact ih2 _ _)
      | (with_reducible exact ih3 _ _ _)
      | (with_reducible exact ih4 _ _)
      | (with_reducible exact ih5 _ _ _)
      | (with_reducible exact ih6 _ _ _)
      | (with_reducible exact spec_digits8.mono _ _ _)
      | (with_reducible exact LeO.refl _)
      | (with_reducible exact LeO.none _)
      | (with_reducible refine LeO.ite ?_ ?_)
      | (with_reducible refine LeO.bind ?_ (fun _ => ?_))
      | exact ih0 _ _ _
      | exact ih1 _ _
      | exact ih2 _ _
      | exact ih3 _ _ _
      | exact ih4 _ _
      | exact ih5 _ _ _
      | exact ih6 _ _ _
      | exact spec_digits8.mono _ _ _
      | exact LeO.none _
      | refine LeO.ite ?_ ?_
      | refine LeO.bind ?_ (fun _ => ?_)
    · intro y0 y1 y2
      unfold spec_ScanNumber8.j6
      repeat' first
      | (with_reducible exact ih0 _ _ _)
      | (with_reducible exact ih1 _ _)
      | (with_reducible exact ih2 _ _)
      | (with_reducible exact ih3 _ _ _)
      | (with_reducible exact ih4 _ _)
      | (with_reducible exact ih5 _ _ _)
      | (with_reducible exact ih6 _ _ _)
      | (with_reducible exact spec_digits8.mono _ _ _)
      | (with_reducible exact LeO.refl _)
      | (with_reducible exact LeO.none _)
      | (with_reducible refine LeO.ite ?_ ?_)
      | (with_reducible refine LeO.bind ?_ (fun _ => ?_))
      | exact ih0 _ _ _
      | exact ih1 _ _
      | exact ih2 _ _
      | exact ih3 _ _ _
      | exact ih4 _ _
      | exact ih5 _ _ _
      | exact ih6 _ _ _
      | exact spec_digits8.mono _ _ _
      | exact LeO.none _
      | refine LeO.ite ?_ ?_
      | refine LeO.bind ?_ (fun _ => ?_)
theorem spec_ScanNumber8.mono : ∀ a0 k, LeO (spec_ScanNumber8.f k a0) (spec_ScanNumber8.f (k + 1) a0) := by
  intro a0 k
  obtain ⟨ih0, ih1, ih2, ih3, ih4, ih5, ih6⟩ := spec_ScanNumber8.mono_l k
  unfold spec_ScanNumber8.f
  repeat' first
      | (with_reducible exact ih0 _ _ _)
      | (with_reducible exact ih1 _ _)
      | (with_reducible exact ih2 _ _)
      | (with_reducible exact ih3 _ _ _)
      | (with_reducible exact ih4 _ _)
      | (with_reducible exact ih5 _ _ _)
      | (with_reducible exact ih6 _ _ _)
      | (with_reducible exact spec_digits8.mono _ _ _)
      | (with_reducible exact LeO.refl _)
      | (with_reducible exact LeO.none _)
      | (with_reducible refine LeO.ite ?_ ?_)
      | (with_reducible refine LeO.bind ?_ (fun _ => ?_))
      | exact ih0 _ _ _
      | exact ih1 _ _
      | exact ih2 _ _
      | exact ih3 _ _ _
      | exact ih4 _ _
      | exact ih5 _ _ _
      | exact ih6 _ _ _
      | exact spec_digits8.mono _ _ _
      | exact LeO.none _
      | refine LeO.ite ?_ ?_
      | refine LeO.bind ?_ (fun _ => ?_)
set_option maxHeartbeats 8000000 in
set_option maxRecDepth 100000 in
theorem spec_ScanNumber8.calls (k : Nat) (A0 : Option Addr) (c0 : Nat) (l0 : List Int) (r1 : Int) (r2 : Int) (w : World) (hr0 : Kd.C (Kd.int .u8) w A0 l0.length l0) (hc0 : l0.length ≤ c0) (h : spec_ScanNumber8.f k l0 = some (r1, r2)) :
    Calls Tryd.prog 11 #[.slice A0 l0.length c0] w fun e w' => e = .returned (.tuple #[.int .i64 r1, .int .i64 r2]) ∧ Drawn0 w w' := by
  have HR0 := Aside0.mk hr0
  have HC0 := Aside0.mk hc0
  clear hr0 hc0
  have H : (if 0 < (l0.length : Int) then (spec_ScanNumber8.j0 k l0 0 ((rd l0 0) == 45)) else (spec_ScanNumber8.j0 k l0 0 false)) = some (r1, r2) := h
  clear h
  have HC2 := Aside0.mk H
  clear H
  go_enter Tryd.func11, Tryd.ntmps11
  go_upto_region 2 with (fail)
  go_cut [16] (fun v16 wc => ∃ (kq : Nat) (x16_1 : Bool), v16 = .bool x16_1 ∧ Aside0 (spec_ScanNumber8.j0 kq l0 0 x16_1 = some (r1, r2)) ∧ Aside0 (kq ≤ k) ∧ Drawn0 w wc)
  case first =>
    have H := HC2.out
    clear HC2
    by_cases c3 : 0 < (l0.length : Int)
    · rw [if_pos c3] at H
      have c3b0 : decide (0 < (l0.length : Int)) = true := decide_eq_true c3
      have c3b1 : decide (0 < l0.length) = true := decide_eq_true (by omega)
      clear c3
      (first | rw [c3b0] | (simp only [i64_w, i32_w]; rw [c3b0]) | skip)
      have H' := Aside0.mk H
      clear H
      have p121 : 0 ≤ (0 : Int) := (by omega)
      have q121 : 0 < (l0.length : Int) := of_decide_eq_true (by first | (with_reducible assumption) | assumption)
      obtain ⟨ad121, e121, hx121_0⟩ := Kd.at_int HR0.out 0 p121 q121
      cases e121
      have qi121 : (0 < l0.length) = True := eq_true (by omega)
      (try rw [show ((0 : Int)).toNat = 0 from rfl] at hx121_0)
      (try rw [Addr.add_zero'] at hx121_0)
      replace p121 := eq_true p121
      replace q121 := eq_true q121
      go_wp2
      go_meet
      case rel => exact ⟨_, (((rd l0 0) == 45)), (by first | rfl | (simp; done) | (simp [*]; done) | (simp [wrap64]; done)), H', ⟨by first | omega | exact Nat.le_refl _⟩, by repeat (first | exact Drawn0.refl _ | apply Drawn0.step)⟩
    · rw [if_neg c3] at H
      have c3b0 : decide (0 < (l0.length : Int)) = false := decide_eq_false c3
      have c3b1 : decide (0 < l0.length) = false := decide_eq_false (by omega)
      clear c3
      (first | rw [c3b0] | (simp only [i64_w, i32_w]; rw [c3b0]) | skip)
      have H' := Aside0.mk H
      clear H
      go_wp2
      go_meet
      case rel => exact ⟨_, (false), (by first | rfl | (simp; done) | (simp [*]; done) | (simp [wrap64]; done)), H', ⟨by first | omega | exact Nat.le_refl _⟩, by repeat (first | exact Drawn0.refl _ | apply Drawn0.step)⟩
  case rest =>
    clear HC2
    try clear c1
    try clear p1
    try clear q1
    try clear hx1
    try clear qi1
    try clear p2
    try clear c3
    try clear c3b0
    try clear c3b1
    try clear hx121_0
    try clear p121
    try clear q121
    obtain ⟨kq, x16_1, rfl, HA, HJ1, ⟨mc1, rfl⟩⟩ := hcut
    cases kq with
    | zero => exact absurd HA.out (by simp [spec_ScanNumber8.j0])
    | succ kj1 =>
      have H := HA.out
      clear HA
      simp only [spec_ScanNumber8.j0] at H
      have HC4 := Aside0.mk H
      clear H
      go_upto_if 16 with (fail)
      go_cut [4] (fun v4 wc => ∃ (kq : Nat) (x4_3 : Int), v4 = .int .i64 x4_3 ∧ Aside0 (spec_ScanNumber8.j1 kq l0 x4_3 = some (r1, r2)) ∧ Aside0 (kq ≤ kj1) ∧ Drawn0 w wc)
      case first =>
        have H := HC4.out
        clear HC4
        by_cases c5 : x16_1 = true
        · subst c5
          have H1 : (spec_ScanNumber8.j1 kj1 l0 (wrap64 (0 + 1))) = some (r1, r2) := by rw [if_pos rfl] at H; exact H
          clear H
          have H := H1
          clear H1
          have H' := Aside0.mk H
          clear H
          go_wp2
          go_meet
          case rel => exact ⟨_, (wrap64 (0 + 1)), (by first | rfl | (simp; done) | (simp [*]; done) | (simp [wrap64]; done)), H', ⟨by have := HJ1.out; first | omega | exact Nat.le_refl _⟩, by repeat (first | exact Drawn0.refl _ | apply Drawn0.step)⟩
        · replace c5 := Bool.eq_false_iff.mpr c5
          subst c5
          have H1 : (spec_ScanNumber8.j1 kj1 l0 0) = some (r1, r2) := by rw [if_neg (show ¬ (false = true) by decide)] at H; exact H
          clear H
          have H := H1
          clear H1
          have H' := Aside0.mk H
          clear H
          go_wp2
          go_meet
          case rel => exact ⟨_, (0), (by first | rfl | (simp; done) | (simp [*]; done) | (simp [wrap64]; done)), H', ⟨by have := HJ1.out; first | omega | exact Nat.le_refl _⟩, by repeat (first | exact Drawn0.refl _ | apply Drawn0.step)⟩
      case rest =>
        clear HC4
        try clear c1
        try clear p1
        try clear q1
        try clear hx1
        try clear qi1
        try clear p2
        try clear c3
        try clear c3b0
        try clear c3b1
        try clear c5
        try clear hx121_0
        try clear p1
        try clear p121
        try clear p2
        try clear q1
        try clear q121
        obtain ⟨kq, x4_3, rfl, HA, HJ3, ⟨mc3, rfl⟩⟩ := hcut
        cases kq with
        | zero => exact absurd HA.out (by simp [spec_ScanNumber8.j1])
        | succ kj3 =>
          have H := HA.out
          clear HA
          simp only [spec_ScanNumber8.j1] at H
          replace H := Option.bind_eq_some_iff.mp H
          obtain ⟨t122, A60, H⟩ := H
          replace H : (if t122 = x4_3 then (some (x4_3, 1)) else (if 0 ≤ x4_3 then (if x4_3 < (l0.length : Int) then (if (rd l0 x4_3) = 48 then (spec_ScanNumber8.j2 kj3 l0 (wrap64 (x4_3 + 1))) else (spec_ScanNumber8.j2 kj3 l0 t122)) else (none)) else (none))) = some (r1, r2) := H
          have A6 := Aside0.mk A60
          clear A60
          by_cases c7 : t122 = x4_3
          · rw [if_pos c7] at H
            have c7b0 : (t122 == x4_3) = true := beq_iff_eq.mpr c7
            have c7b1 : (t122 != x4_3) = false := bne_eq_false_iff_eq.mpr c7
            clear c7
            simp only [Option.some.injEq, Prod.mk.injEq] at H
            obtain ⟨rfl, rfl⟩ := H
            go_wp2_with (first | ((with_reducible refine gate_callee (f := 16) rfl ?_); refine goesL_ (some 21) rfl rfl Tryd.func16 (by kernel_rfl) rfl #[.slice A0 l0.length c0, .int .i64 x4_3] rfl (by (try simp only [List.map_toArray, List.map_cons, List.map_nil]); first | done | rfl | (simp only [List.length_drop, List.length_take]; rfl)) ?_; (with_reducible refine (spec_digits8.calls kj3 _ _ l0 x4_3 t122 _ ?side1 ?side2 A6.out).mono ?_); (case side1 => repeat (first | exact HR0.out | (with_reducible refine Kd.C_alloc ?_ _) | (with_reducible refine Kd.C_drewN ?_ _) | (with_reducible refine Kd.C_drew ?_))); (case side2 => exact HC0.out); rintro e w' ⟨rfl, ⟨nd, rfl⟩⟩; refine ⟨_, rfl, ?_⟩))
            go_ret2
            exact ⟨by first | rfl | (simp; done) | (simp [*]; done) | (simp [wrap64]; done), by repeat (first | exact Drawn0.refl _ | apply Drawn0.step)⟩
          · rw [if_neg c7] at H
            have c7b0 : (t122 == x4_3) = false := beq_eq_false_iff_ne.mpr c7
            have c7b1 : (t122 != x4_3) = true := bne_iff_ne.mpr c7
            by_cases c8 : 0 ≤ x4_3
            · rw [if_pos c8] at H
              have c8b0 : decide (0 ≤ x4_3) = true := decide_eq_true c8
              clear c8
              by_cases c9 : x4_3 < (l0.length : Int)
              · rw [if_pos c9] at H
                have c9b0 : decide (x4_3 < (l0.length : Int)) = true := decide_eq_true c9
                clear c9
                have HC10 := Aside0.mk H
                clear H
                go_upto_if 30 with (first | ((with_reducible refine gate_callee (f := 16) rfl ?_); refine goesL_ (some 21) rfl rfl Tryd.func16 (by kernel_rfl) rfl #[.slice A0 l0.length c0, .int .i64 x4_3] rfl (by (try simp only [List.map_toArray, List.map_cons, List.map_nil]); first | done | rfl | (simp only [List.length_drop, List.length_take]; rfl)) ?_; (with_reducible refine (spec_digits8.calls kj3 _ _ l0 x4_3 t122 _ ?side1 ?side2 A6.out).mono ?_); (case side1 => repeat (first | exact HR0.out | (with_reducible refine Kd.C_alloc ?_ _) | (with_reducible refine Kd.C_drewN ?_ _) | (with_reducible refine Kd.C_drew ?_))); (case side2 => exact HC0.out); rintro e w' ⟨rfl, ⟨nd, rfl⟩⟩; refine ⟨_, rfl, ?_⟩; have p123 : 0 ≤ (x4_3 : Int) := of_decide_eq_true (by first | (with_reducible assumption) | assumption); have q123 : x4_3 < (l0.length : Int) := of_decide_eq_true (by first | (with_reducible assumption) | assumption); obtain ⟨ad123, e123, hx123_0⟩ := Kd.at_int HR0.out x4_3 p123 q123; cases e123; replace p123 := eq_true p123; replace q123 := eq_true q123))
                (try simp only [Act.put, List.setIfInBounds_toArray, List.set_cons_zero, List.set_cons_succ])
                go_cut [5] (fun v5 wc => ∃ (kq : Nat) (x5_9 : Int), v5 = .int .i64 x5_9 ∧ Aside0 (spec_ScanNumber8.j2 kq l0 x5_9 = some (r1, r2)) ∧ Aside0 (kq ≤ kj3) ∧ Drawn0 w wc)
                case first =>
                  have H := HC10.out
                  clear HC10
                  by_cases c11 : (rd l0 x4_3) = 48
                  · rw [if_pos c11] at H
                    have c11b0 : ((rd l0 x4_3) == 48) = true := beq_iff_eq.mpr c11
                    have c11b1 : ((rd l0 x4_3) != 48) = false := bne_eq_false_iff_eq.mpr c11
                    clear c11
                    (first | rw [c11b0] | (simp only [i64_w, i32_w]; rw [c11b0]) | skip)
                    have H' := Aside0.mk H
                    clear H
                    go_wp2
                    go_meet
                    case rel => exact ⟨_, (wrap64 (x4_3 + 1)), (by first | rfl | (simp; done) | (simp [*]; done) | (simp [wrap64]; done)), H', ⟨by have := HJ1.out; have := HJ3.out; first | omega | exact Nat.le_refl _⟩, by repeat (first | exact Drawn0.refl _ | apply Drawn0.step)⟩
                  · rw [if_neg c11] at H
                    have c11b0 : ((rd l0 x4_3) == 48) = false := beq_eq_false_iff_ne.mpr c11
                    have c11b1 : ((rd l0 x4_3) != 48) = true := bne_iff_ne.mpr c11
                    (first | rw [c11b0] | (simp only [i64_w, i32_w]; rw [c11b0]) | skip)
                    have H' := Aside0.mk H
                    clear H
                    go_wp2
                    go_meet
                    case rel => exact ⟨_, (t122), (by first | rfl | (simp; done) | (simp [*]; done) | (simp [wrap64]; done)), H', ⟨by have := HJ1.out; have := HJ3.out; first | omega | exact Nat.le_refl _⟩, by repeat (first | exact Drawn0.refl _ | apply Drawn0.step)⟩
                case rest =>
                  clear HC10
                  try clear c1
                  try clear p1
                  try clear q1
                  try clear hx1
                  try clear qi1
                  try clear p2
                  try clear c3
                  try clear c3b0
                  try clear c3b1
                  try clear c5
                  try clear p6
                  try clear c7
                  try clear c7b0
                  try clear c7b1
                  try clear c8
                  try clear c8b0
                  try clear c9
                  try clear c9b0
                  try clear c11
                  try clear c11b0
                  try clear c11b1
                  try clear hx121_0
                  try clear hx123_0
                  try clear p1
                  try clear p121
                  try clear p123
                  try clear p2
                  try clear q1
                  try clear q121
                  try clear q123
                  obtain ⟨kq, x5_9, rfl, HA, HJ9, ⟨mc9, rfl⟩⟩ := hcut
                  cases kq with
                  | zero => exact absurd HA.out (by simp [spec_ScanNumber8.j2])
                  | succ kj9 =>
                    have H := HA.out
                    clear HA
                    simp only [spec_ScanNumber8.j2] at H
                    have HC12 := Aside0.mk H
                    clear H
                    go_upto_region 9 with (fail)
                    go_cut [43] (fun v43 wc => ∃ (kq : Nat) (x43_11 : Bool), v43 = .bool x43_11 ∧ Aside0 (spec_ScanNumber8.j3 kq l0 x5_9 x43_11 = some (r1, r2)) ∧ Aside0 (kq ≤ kj9) ∧ Drawn0 w wc)
                    case first =>
                      have H := HC12.out
                      clear HC12
                      by_cases c13 : x5_9 < (l0.length : Int)
                      · rw [if_pos c13] at H
                        have c13b0 : decide (x5_9 < (l0.length : Int)) = true := decide_eq_true c13
                        clear c13
                        (first | rw [c13b0] | (simp only [i64_w, i32_w]; rw [c13b0]) | skip)
                        by_cases c14 : 0 ≤ x5_9
                        · rw [if_pos c14] at H
                          have c14b0 : decide (0 ≤ x5_9) = true := decide_eq_true c14
                          clear c14
                          have H' := Aside0.mk H
                          clear H
                          have p124 : 0 ≤ (x5_9 : Int) := of_decide_eq_true (by first | (with_reducible assumption) | assumption)
                          have q124 : x5_9 < (l0.length : Int) := of_decide_eq_true (by first | (with_reducible assumption) | assumption)
                          obtain ⟨ad124, e124, hx124_0⟩ := Kd.at_int HR0.out x5_9 p124 q124
                          obtain rfl : ad123 = ad124 := (by injection e124)
                          replace p124 := eq_true p124
                          replace q124 := eq_true q124
                          go_wp2
                          go_meet
                          case rel => exact ⟨_, (((rd l0 x5_9) == 46)), (by first | rfl | (simp; done) | (simp [*]; done) | (simp [wrap64]; done)), H', ⟨by have := HJ1.out; have := HJ3.out; have := HJ9.out; first | omega | exact Nat.le_refl _⟩, by repeat (first | exact Drawn0.refl _ | apply Drawn0.step)⟩
                        · rw [if_neg c14] at H
                          exact absurd H (by simp)
                      · rw [if_neg c13] at H
                        have c13b0 : decide (x5_9 < (l0.length : Int)) = false := decide_eq_false c13
                        clear c13
                        (first | rw [c13b0] | (simp only [i64_w, i32_w]; rw [c13b0]) | skip)
                        have H' := Aside0.mk H
                        clear H
                        go_wp2
                        go_meet
                        case rel => exact ⟨_, (false), (by first | rfl | (simp; done) | (simp [*]; done) | (simp [wrap64]; done)), H', ⟨by have := HJ1.out; have := HJ3.out; have := HJ9.out; first | omega | exact Nat.le_refl _⟩, by repeat (first | exact Drawn0.refl _ | apply Drawn0.step)⟩
                    case rest =>
                      clear HC12
                      try clear c1
                      try clear p1
                      try clear q1
                      try clear hx1
                      try clear qi1
                      try clear p2
                      try clear c3
                      try clear c3b0
                      try clear c3b1
                      try clear c5
                      try clear p6
                      try clear c7
                      try clear c7b0
                      try clear c7b1
                      try clear c8
                      try clear c8b0
                      try clear c9
                      try clear c9b0
                      try clear c11
                      try clear c11b0
                      try clear c11b1
                      try clear p12
                      try clear q12
                      try clear hx12
                      try clear qi12
                      try clear c13
                      try clear c13b0
                      try clear c14
                      try clear c14b0
                      try clear hx121_0
                      try clear hx123_0
                      try clear hx124_0
                      try clear p1
                      try clear p121
                      try clear p123
                      try clear p124
                      try clear p2
                      try clear p6
                      try clear q1
                      try clear q121
                      try clear q123
                      try clear q124
                      obtain ⟨kq, x43_11, rfl, HA, HJ11, ⟨mc11, rfl⟩⟩ := hcut
                      cases kq with
                      | zero => exact absurd HA.out (by simp [spec_ScanNumber8.j3])
                      | succ kj11 =>
                        have H := HA.out
                        clear HA
                        simp only [spec_ScanNumber8.j3] at H
                        have HC15 := Aside0.mk H
                        clear H
                        go_upto_if 43 with (fail)
                        go_cut [5] (fun v5 wc => ∃ (kq : Nat) (x5_14 : Int), v5 = .int .i64 x5_14 ∧ Aside0 (spec_ScanNumber8.j4 kq l0 x5_14 = some (r1, r2)) ∧ Aside0 (kq ≤ kj11) ∧ Drawn0 w wc)
                        case first =>
                          have H := HC15.out
                          clear HC15
                          by_cases c16 : x43_11 = true
                          · subst c16
                            have H1 : ((spec_digits8.f kj11 l0 (wrap64 (x5_9 + 1))).bind fun t125 => (if t125 = (wrap64 (x5_9 + 1)) then (some (wrap64 (x5_9 + 1), 2)) else (spec_ScanNumber8.j4 kj11 l0 t125))) = some (r1, r2) := by rw [if_pos rfl] at H; exact H
                            clear H
                            have H := H1
                            clear H1
                            replace H := Option.bind_eq_some_iff.mp H
                            obtain ⟨t125, A170, H⟩ := H
                            replace H : (if t125 = (wrap64 (x5_9 + 1)) then (some (wrap64 (x5_9 + 1), 2)) else (spec_ScanNumber8.j4 kj11 l0 t125)) = some (r1, r2) := H
                            have A17 := Aside0.mk A170
                            clear A170
                            by_cases c18 : t125 = (wrap64 (x5_9 + 1))
                            · rw [if_pos c18] at H
                              have c18b0 : (t125 == (wrap64 (x5_9 + 1))) = true := beq_iff_eq.mpr c18
                              have c18b1 : (t125 != (wrap64 (x5_9 + 1))) = false := bne_eq_false_iff_eq.mpr c18
                              clear c18
                              (first | rw [c18b0] | (simp only [i64_w, i32_w]; rw [c18b0]) | skip)
                              simp only [Option.some.injEq, Prod.mk.injEq] at H
                              obtain ⟨rfl, rfl⟩ := H
                              go_wp2_with (first | ((with_reducible refine gate_callee (f := 16) rfl ?_); refine goesL_ (some 49) rfl rfl Tryd.func16 (by kernel_rfl) rfl #[.slice (some ad123) l0.length c0, .int .i64 (wrap64 (x5_9 + 1))] rfl (by (try simp only [List.map_toArray, List.map_cons, List.map_nil]); first | done | rfl | (simp only [List.length_drop, List.length_take]; rfl)) ?_; (with_reducible refine (spec_digits8.calls kj11 _ _ l0 (wrap64 (x5_9 + 1)) t125 _ ?side1 ?side2 A17.out).mono ?_); (case side1 => repeat (first | exact HR0.out | (with_reducible refine Kd.C_alloc ?_ _) | (with_reducible refine Kd.C_drewN ?_ _) | (with_reducible refine Kd.C_drew ?_))); (case side2 => exact HC0.out); rintro e w' ⟨rfl, ⟨nd, rfl⟩⟩; refine ⟨_, rfl, ?_⟩))
                              go_ret2
                              exact ⟨by first | rfl | (simp; done) | (simp [*]; done) | (simp [wrap64]; done), by repeat (first | exact Drawn0.refl _ | apply Drawn0.step)⟩
                            · rw [if_neg c18] at H
                              have c18b0 : (t125 == (wrap64 (x5_9 + 1))) = false := beq_eq_false_iff_ne.mpr c18
                              have c18b1 : (t125 != (wrap64 (x5_9 + 1))) = true := bne_iff_ne.mpr c18
                              (first | rw [c18b0] | (simp only [i64_w, i32_w]; rw [c18b0]) | skip)
                              have H' := Aside0.mk H
                              clear H
                              go_wp2_with (first | ((with_reducible refine gate_callee (f := 16) rfl ?_); refine goesL_ (some 49) rfl rfl Tryd.func16 (by kernel_rfl) rfl #[.slice (some ad123) l0.length c0, .int .i64 (wrap64 (x5_9 + 1))] rfl (by (try simp only [List.map_toArray, List.map_cons, List.map_nil]); first | done | rfl | (simp only [List.length_drop, List.length_take]; rfl)) ?_; (with_reducible refine (spec_digits8.calls kj11 _ _ l0 (wrap64 (x5_9 + 1)) t125 _ ?side1 ?side2 A17.out).mono ?_); (case side1 => repeat (first | exact HR0.out | (with_reducible refine Kd.C_alloc ?_ _) | (with_reducible refine Kd.C_drewN ?_ _) | (with_reducible refine Kd.C_drew ?_))); (case side2 => exact HC0.out); rintro e w' ⟨rfl, ⟨nd, rfl⟩⟩; refine ⟨_, rfl, ?_⟩))
                              go_meet
                              case rel => exact ⟨_, (t125), (by first | rfl | (simp; done) | (simp [*]; done) | (simp [wrap64]; done)), H', ⟨by have := HJ1.out; have := HJ3.out; have := HJ9.out; have := HJ11.out; first | omega | exact Nat.le_refl _⟩, by repeat (first | exact Drawn0.refl _ | apply Drawn0.step)⟩
                          · replace c16 := Bool.eq_false_iff.mpr c16
                            subst c16
                            have H1 : (spec_ScanNumber8.j4 kj11 l0 x5_9) = some (r1, r2) := by rw [if_neg (show ¬ (false = true) by decide)] at H; exact H
                            clear H
                            have H := H1
                            clear H1
                            have H' := Aside0.mk H
                            clear H
                            go_wp2
                            go_meet
                            case rel => exact ⟨_, (x5_9), (by first | rfl | (simp; done) | (simp [*]; done) | (simp [wrap64]; done)), H', ⟨by have := HJ1.out; have := HJ3.out; have := HJ9.out; have := HJ11.out; first | omega | exact Nat.le_refl _⟩, by repeat (first | exact Drawn0.refl _ | apply Drawn0.step)⟩
                        case rest =>
                          clear HC15
                          try clear c1
                          try clear p1
                          try clear q1
                          try clear hx1
                          try clear qi1
                          try clear p2
                          try clear c3
                          try clear c3b0
                          try clear c3b1
                          try clear c5
                          try clear p6
                          try clear c7
                          try clear c7b0
                          try clear c7b1
                          try clear c8
                          try clear c8b0
                          try clear c9
                          try clear c9b0
                          try clear c11
                          try clear c11b0
                          try clear c11b1
                          try clear p12
                          try clear q12
                          try clear hx12
                          try clear qi12
                          try clear c13
                          try clear c13b0
                          try clear c14
                          try clear c14b0
                          try clear c16
                          try clear c18
                          try clear c18b0
                          try clear c18b1
                          try clear hx121_0
                          try clear hx123_0
                          try clear hx124_0
                          try clear p1
                          try clear p12
                          try clear p121
                          try clear p123
                          try clear p124
                          try clear p2
                          try clear p6
                          try clear q1
                          try clear q12
                          try clear q121
                          try clear q123
                          try clear q124
                          obtain ⟨kq, x5_14, rfl, HA, HJ14, ⟨mc14, rfl⟩⟩ := hcut
                          cases kq with
                          | zero => exact absurd HA.out (by simp [spec_ScanNumber8.j4])
                          | succ kj14 =>
                            have H := HA.out
                            clear HA
                            simp only [spec_ScanNumber8.j4] at H
                            have HC19 := Aside0.mk H
                            clear H
                            go_upto_region 13 with (fail)
                            go_cut [71] (fun v71 wc => ∃ (kq : Nat) (x71_18 : Bool), v71 = .bool x71_18 ∧ Aside0 (spec_ScanNumber8.j5 kq l0 x5_14 x71_18 = some (r1, r2)) ∧ Aside0 (kq ≤ kj14) ∧ Drawn0 w wc)
                            case first =>
                              have H := HC19.out
                              clear HC19
                              by_cases c20 : x5_14 < (l0.length : Int)
                              · rw [if_pos c20] at H
                                have c20b0 : decide (x5_14 < (l0.length : Int)) = true := decide_eq_true c20
                                clear c20
                                (first | rw [c20b0] | (simp only [i64_w, i32_w]; rw [c20b0]) | skip)
                                by_cases c21 : 0 ≤ x5_14
                                · rw [if_pos c21] at H
                                  have c21b0 : decide (0 ≤ x5_14) = true := decide_eq_true c21
                                  clear c21
                                  by_cases c22 : (rd l0 x5_14) = 101
                                  · rw [if_pos c22] at H
                                    have c22b0 : ((rd l0 x5_14) == 101) = true := beq_iff_eq.mpr c22
                                    have c22b1 : ((rd l0 x5_14) != 101) = false := bne_eq_false_iff_eq.mpr c22
                                    clear c22
                                    have H' := Aside0.mk H
                                    clear H
                                    have p126 : 0 ≤ (x5_14 : Int) := of_decide_eq_true (by first | (with_reducible assumption) | assumption)
                                    have q126 : x5_14 < (l0.length : Int) := of_decide_eq_true (by first | (with_reducible assumption) | assumption)
                                    obtain ⟨ad126, e126, hx126_0⟩ := Kd.at_int HR0.out x5_14 p126 q126
                                    obtain rfl : ad123 = ad126 := (by injection e126)
                                    replace p126 := eq_true p126
                                    replace q126 := eq_true q126
                                    go_wp2
                                    go_meet
                                    case rel => exact ⟨_, (true), (by first | rfl | (simp; done) | (simp [*]; done) | (simp [wrap64]; done)), H', ⟨by have := HJ1.out; have := HJ3.out; have := HJ9.out; have := HJ11.out; have := HJ14.out; first | omega | exact Nat.le_refl _⟩, by repeat (first | exact Drawn0.refl _ | apply Drawn0.step)⟩
                                  · rw [if_neg c22] at H
                                    have c22b0 : ((rd l0 x5_14) == 101) = false := beq_eq_false_iff_ne.mpr c22
                                    have c22b1 : ((rd l0 x5_14) != 101) = true := bne_iff_ne.mpr c22
                                    have H' := Aside0.mk H
                                    clear H
                                    have p126 : 0 ≤ (x5_14 : Int) := of_decide_eq_true (by first | (with_reducible assumption) | assumption)
                                    have q126 : x5_14 < (l0.length : Int) := of_decide_eq_true (by first | (with_reducible assumption) | assumption)
                                    obtain ⟨ad126, e126, hx126_0⟩ := Kd.at_int HR0.out x5_14 p126 q126
                                    obtain rfl : ad123 = ad126 := (by injection e126)
                                    replace p126 := eq_true p126
                                    replace q126 := eq_true q126
                                    have p127 : 0 ≤ (x5_14 : Int) := of_decide_eq_true (by first | (with_reducible assumption) | assumption)
                                    have q127 : x5_14 < (l0.length : Int) := of_decide_eq_true (by first | (with_reducible assumption) | assumption)
                                    obtain ⟨ad127, e127, hx127_0⟩ := Kd.at_int HR0.out x5_14 p127 q127
                                    obtain rfl : ad123 = ad127 := (by injection e127)
                                    replace p127 := eq_true p127
                                    replace q127 := eq_true q127
                                    go_wp2
                                    go_meet
                                    case rel => exact ⟨_, (((rd l0 x5_14) == 69)), (by first | rfl | (simp; done) | (simp [*]; done) | (simp [wrap64]; done)), H', ⟨by have := HJ1.out; have := HJ3.out; have := HJ9.out; have := HJ11.out; have := HJ14.out; first | omega | exact Nat.le_refl _⟩, by repeat (first | exact Drawn0.refl _ | apply Drawn0.step)⟩
                                · rw [if_neg c21] at H
                                  exact absurd H (by simp)
                              · rw [if_neg c20] at H
                                have c20b0 : decide (x5_14 < (l0.length : Int)) = false := decide_eq_false c20
                                clear c20
                                (first | rw [c20b0] | (simp only [i64_w, i32_w]; rw [c20b0]) | skip)
                                have H' := Aside0.mk H
                                clear H
                                go_wp2
                                go_meet
                                case rel => exact ⟨_, (false), (by first | rfl | (simp; done) | (simp [*]; done) | (simp [wrap64]; done)), H', ⟨by have := HJ1.out; have := HJ3.out; have := HJ9.out; have := HJ11.out; have := HJ14.out; first | omega | exact Nat.le_refl _⟩, by repeat (first | exact Drawn0.refl _ | apply Drawn0.step)⟩
                            case rest =>
                              clear HC19
                              try clear c1
                              try clear p1
                              try clear q1
                              try clear hx1
                              try clear qi1
                              try clear c2
                              try clear p2
                              try clear c3
                              try clear c3b0
                              try clear c3b1
                              try clear c5
                              try clear p6
                              try clear c7
                              try clear c7b0
                              try clear c7b1
                              try clear c8
                              try clear c8b0
                              try clear c9
                              try clear c9b0
                              try clear c11
                              try clear c11b0
                              try clear c11b1
                              try clear p12
                              try clear q12
                              try clear hx12
                              try clear qi12
                              try clear c13
                              try clear c13b0
                              try clear c14
                              try clear c14b0
                              try clear c16
                              try clear c18
                              try clear c18b0
                              try clear c18b1
                              try clear c20
                              try clear c20b0
                              try clear c21
                              try clear c21b0
                              try clear c22
                              try clear c22b0
                              try clear c22b1
                              try clear hx121_0
                              try clear hx123_0
                              try clear hx124_0
                              try clear hx126_0
                              try clear hx127_0
                              try clear p1
                              try clear p12
                              try clear p121
                              try clear p123
                              try clear p124
                              try clear p126
                              try clear p127
                              try clear p2
                              try clear p6
                              try clear q1
                              try clear q12
                              try clear q121
                              try clear q123
                              try clear q124
                              try clear q126
                              try clear q127
                              obtain ⟨kq, x71_18, rfl, HA, HJ18, ⟨mc18, rfl⟩⟩ := hcut
                              cases kq with
                              | zero => exact absurd HA.out (by simp [spec_ScanNumber8.j5])
                              | succ kj18 =>
                                have H := HA.out
                                clear HA
                                simp only [spec_ScanNumber8.j5] at H
                                by_cases c23 : x71_18 = true
                                · subst c23
                                  have H1 : (if (wrap64 (x5_14 + 1)) < (l0.length : Int) then (if 0 ≤ (wrap64 (x5_14 + 1)) then (if (rd l0 (wrap64 (x5_14 + 1))) = 43 then (spec_ScanNumber8.j6 kj18 l0 (wrap64 (x5_14 + 1)) true) else (spec_ScanNumber8.j6 kj18 l0 (wrap64 (x5_14 + 1)) ((rd l0 (wrap64 (x5_14 + 1))) == 45))) else (none)) else (spec_ScanNumber8.j6 kj18 l0 (wrap64 (x5_14 + 1)) false)) = some (r1, r2) := by rw [if_pos rfl] at H; exact H
                                  clear H
                                  have H := H1
                                  clear H1
                                  have HC24 := Aside0.mk H
                                  clear H
                                  go_upto_region 15 with (fail)
                                  go_cut [91] (fun v91 wc => ∃ (kq : Nat) (x91_23 : Bool), v91 = .bool x91_23 ∧ Aside0 (spec_ScanNumber8.j6 kq l0 (wrap64 (x5_14 + 1)) x91_23 = some (r1, r2)) ∧ Aside0 (kq ≤ kj18) ∧ Drawn0 w wc)
                                  case first =>
                                    have H := HC24.out
                                    clear HC24
                                    by_cases c25 : (wrap64 (x5_14 + 1)) < (l0.length : Int)
                                    · rw [if_pos c25] at H
                                      have c25b0 : decide ((wrap64 (x5_14 + 1)) < (l0.length : Int)) = true := decide_eq_true c25
                                      clear c25
                                      (first | rw [c25b0] | (simp only [i64_w, i32_w]; rw [c25b0]) | skip)
                                      obtain ⟨ji26, hji26⟩ : ∃ j_ : Int, (wrap64 (x5_14 + 1)) = j_ := ⟨_, rfl⟩
                                      replace H : (if 0 ≤ (ji26) then (if (rd l0 (ji26)) = 43 then (spec_ScanNumber8.j6 kj18 l0 ji26 true) else (spec_ScanNumber8.j6 kj18 l0 ji26 ((rd l0 (ji26)) == 45))) else (none)) = some (r1, r2) := by first | (rw [hji26] at H; exact H) | (simp only [hji26] at H ⊢; exact H)
                                      (try rw [hji26] at c25b0)
                                      have hji26w : (IntKind.i64.wrap (x5_14 + 1)) = ji26 := (i64_w _).trans hji26
                                      by_cases c27 : 0 ≤ (ji26)
                                      · rw [if_pos c27] at H
                                        have c27b0 : decide (0 ≤ (ji26)) = true := decide_eq_true c27
                                        clear c27
                                        by_cases c28 : (rd l0 (ji26)) = 43
                                        · rw [if_pos c28] at H
                                          have c28b0 : ((rd l0 (ji26)) == 43) = true := beq_iff_eq.mpr c28
                                          have c28b1 : ((rd l0 (ji26)) != 43) = false := bne_eq_false_iff_eq.mpr c28
                                          clear c28
                                          have H' := Aside0.mk H
                                          clear H
                                          have p128 : 0 ≤ ((ji26) : Int) := of_decide_eq_true (by first | (with_reducible assumption) | assumption)
                                          have q128 : (ji26) < (l0.length : Int) := of_decide_eq_true (by first | (with_reducible assumption) | assumption)
                                          obtain ⟨ad128, e128, hx128_0⟩ := Kd.at_int HR0.out (ji26) p128 q128
                                          obtain rfl : ad123 = ad128 := (by injection e128)
                                          replace p128 := eq_true p128
                                          replace q128 := eq_true q128
                                          go_wp2
                                          first | (go_meet) | (subst hji26; go_meet)
                                          case rel => first | (exact ⟨_, (true), (by first | rfl | (simp; done) | (simp [*]; done) | (simp [wrap64]; done)), H', ⟨by have := HJ1.out; have := HJ3.out; have := HJ9.out; have := HJ11.out; have := HJ14.out; have := HJ18.out; first | omega | exact Nat.le_refl _⟩, by repeat (first | exact Drawn0.refl _ | apply Drawn0.step)⟩) | (subst hji26; exact ⟨_, (true), (by first | rfl | (simp; done) | (simp [*]; done) | (simp [wrap64]; done)), H', ⟨by have := HJ1.out; have := HJ3.out; have := HJ9.out; have := HJ11.out; have := HJ14.out; have := HJ18.out; first | omega | exact Nat.le_refl _⟩, by repeat (first | exact Drawn0.refl _ | apply Drawn0.step)⟩) | (exact ⟨_, (true), (by first | rfl | (simp; done) | (simp [*]; done) | (simp [wrap64]; done)), H', ⟨by have := HJ1.out; have := HJ3.out; have := HJ9.out; have := HJ11.out; have := HJ14.out; have := HJ18.out; first | omega | exact Nat.le_refl _⟩, by repeat (first | exact Drawn0.refl _ | apply Drawn0.step)⟩)
                                        · rw [if_neg c28] at H
                                          have c28b0 : ((rd l0 (ji26)) == 43) = false := beq_eq_false_iff_ne.mpr c28
                                          have c28b1 : ((rd l0 (ji26)) != 43) = true := bne_iff_ne.mpr c28
                                          have H' := Aside0.mk H
                                          clear H
                                          have p128 : 0 ≤ ((ji26) : Int) := of_decide_eq_true (by first | (with_reducible assumption) | assumption)
                                          have q128 : (ji26) < (l0.length : Int) := of_decide_eq_true (by first | (with_reducible assumption) | assumption)
                                          obtain ⟨ad128, e128, hx128_0⟩ := Kd.at_int HR0.out (ji26) p128 q128
                                          obtain rfl : ad123 = ad128 := (by injection e128)
                                          replace p128 := eq_true p128
                                          replace q128 := eq_true q128
                                          have p129 : 0 ≤ ((ji26) : Int) := of_decide_eq_true (by first | (with_reducible assumption) | assumption)
                                          have q129 : (ji26) < (l0.length : Int) := of_decide_eq_true (by first | (with_reducible assumption) | assumption)
                                          obtain ⟨ad129, e129, hx129_0⟩ := Kd.at_int HR0.out (ji26) p129 q129
                                          obtain rfl : ad123 = ad129 := (by injection e129)
                                          replace p129 := eq_true p129
                                          replace q129 := eq_true q129
                                          go_wp2
                                          first | (go_meet) | (subst hji26; go_meet)
                                          case rel => first | (exact ⟨_, (((rd l0 (ji26)) == 45)), (by first | rfl | (simp; done) | (simp only [← hji26] <;> (first | rfl | simp)) | (simp [*]; done) | (simp [wrap64]; done)), H', ⟨by have := HJ1.out; have := HJ3.out; have := HJ9.out; have := HJ11.out; have := HJ14.out; have := HJ18.out; first | omega | exact Nat.le_refl _⟩, by repeat (first | exact Drawn0.refl _ | apply Drawn0.step)⟩) | (subst hji26; exact ⟨_, (((rd l0 ((wrap64 (x5_14 + 1)))) == 45)), (by first | rfl | (simp; done) | (simp only [← hji26] <;> (first | rfl | simp)) | (simp [*]; done) | (simp [wrap64]; done)), H', ⟨by have := HJ1.out; have := HJ3.out; have := HJ9.out; have := HJ11.out; have := HJ14.out; have := HJ18.out; first | omega | exact Nat.le_refl _⟩, by repeat (first | exact Drawn0.refl _ | apply Drawn0.step)⟩) | (exact ⟨_, (((rd l0 ((wrap64 (x5_14 + 1)))) == 45)), (by first | rfl | (simp; done) | (simp only [← hji26] <;> (first | rfl | simp)) | (simp [*]; done) | (simp [wrap64]; done)), H', ⟨by have := HJ1.out; have := HJ3.out; have := HJ9.out; have := HJ11.out; have := HJ14.out; have := HJ18.out; first | omega | exact Nat.le_refl _⟩, by repeat (first | exact Drawn0.refl _ | apply Drawn0.step)⟩)
                                      · rw [if_neg c27] at H
                                        exact absurd H (by simp)
                                    · rw [if_neg c25] at H
                                      have c25b0 : decide ((wrap64 (x5_14 + 1)) < (l0.length : Int)) = false := decide_eq_false c25
                                      clear c25
                                      (first | rw [c25b0] | (simp only [i64_w, i32_w]; rw [c25b0]) | skip)
                                      have H' := Aside0.mk H
                                      clear H
                                      go_wp2
                                      go_meet
                                      case rel => exact ⟨_, (false), (by first | rfl | (simp; done) | (simp [*]; done) | (simp [wrap64]; done)), H', ⟨by have := HJ1.out; have := HJ3.out; have := HJ9.out; have := HJ11.out; have := HJ14.out; have := HJ18.out; first | omega | exact Nat.le_refl _⟩, by repeat (first | exact Drawn0.refl _ | apply Drawn0.step)⟩
                                  case rest =>
                                    clear HC24
                                    try clear c1
                                    try clear p1
                                    try clear q1
                                    try clear hx1
                                    try clear qi1
                                    try clear c2
                                    try clear p2
                                    try clear c3
                                    try clear c3b0
                                    try clear c3b1
                                    try clear c5
                                    try clear p6
                                    try clear c7
                                    try clear c7b0
                                    try clear c7b1
                                    try clear c8
                                    try clear c8b0
                                    try clear c9
                                    try clear c9b0
                                    try clear c11
                                    try clear c11b0
                                    try clear c11b1
                                    try clear p12
                                    try clear q12
                                    try clear hx12
                                    try clear qi12
                                    try clear c13
                                    try clear c13b0
                                    try clear c14
                                    try clear c14b0
                                    try clear c16
                                    try clear c18
                                    try clear c18b0
                                    try clear c18b1
                                    try clear c20
                                    try clear c20b0
                                    try clear c21
                                    try clear c21b0
                                    try clear c22
                                    try clear c22b0
                                    try clear c22b1
                                    try clear c23
                                    try clear c25
                                    try clear c25b0
                                    try clear c27
                                    try clear c27b0
                                    try clear c28
                                    try clear c28b0
                                    try clear c28b1
                                    try clear hx121_0
                                    try clear hx123_0
                                    try clear hx124_0
                                    try clear hx126_0
                                    try clear hx127_0
                                    try clear hx128_0
                                    try clear hx129_0
                                    try clear p1
                                    try clear p12
                                    try clear p121
                                    try clear p123
                                    try clear p124
                                    try clear p126
                                    try clear p127
                                    try clear p128
                                    try clear p129
                                    try clear p2
                                    try clear p6
                                    try clear q1
                                    try clear q12
                                    try clear q121
                                    try clear q123
                                    try clear q124
                                    try clear q126
                                    try clear q127
                                    try clear q128
                                    try clear q129
                                    obtain ⟨kq, x91_23, rfl, HA, HJ23, ⟨mc23, rfl⟩⟩ := hcut
                                    cases kq with
                                    | zero => exact absurd HA.out (by simp [spec_ScanNumber8.j6])
                                    | succ kj23 =>
                                      have H := HA.out
                                      clear HA
                                      simp only [spec_ScanNumber8.j6] at H
                                      by_cases c29 : x91_23 = true
                                      · subst c29
                                        have H1 : ((spec_digits8.f kj23 l0 (wrap64 ((wrap64 (x5_14 + 1)) + 1))).bind fun t130 => (if t130 = (wrap64 ((wrap64 (x5_14 + 1)) + 1)) then (some (wrap64 ((wrap64 (x5_14 + 1)) + 1), 3)) else (some (t130, 0)))) = some (r1, r2) := by rw [if_pos rfl] at H; exact H
                                        clear H
                                        have H := H1
                                        clear H1
                                        replace H := Option.bind_eq_some_iff.mp H
                                        obtain ⟨t130, A300, H⟩ := H
                                        replace H : (if t130 = (wrap64 ((wrap64 (x5_14 + 1)) + 1)) then (some (wrap64 ((wrap64 (x5_14 + 1)) + 1), 3)) else (some (t130, 0))) = some (r1, r2) := H
                                        have A30 := Aside0.mk A300
                                        clear A300
                                        by_cases c31 : t130 = (wrap64 ((wrap64 (x5_14 + 1)) + 1))
                                        · rw [if_pos c31] at H
                                          have c31b0 : (t130 == (wrap64 ((wrap64 (x5_14 + 1)) + 1))) = true := beq_iff_eq.mpr c31
                                          have c31b1 : (t130 != (wrap64 ((wrap64 (x5_14 + 1)) + 1))) = false := bne_eq_false_iff_eq.mpr c31
                                          clear c31
                                          simp only [Option.some.injEq, Prod.mk.injEq] at H
                                          obtain ⟨rfl, rfl⟩ := H
                                          go_wp2_with (first | ((with_reducible refine gate_callee (f := 16) rfl ?_); refine goesL_ (some 96) rfl rfl Tryd.func16 (by kernel_rfl) rfl #[.slice (some ad123) l0.length c0, .int .i64 (wrap64 ((wrap64 (x5_14 + 1)) + 1))] rfl (by (try simp only [List.map_toArray, List.map_cons, List.map_nil]); first | done | rfl | (simp only [List.length_drop, List.length_take]; rfl)) ?_; (with_reducible refine (spec_digits8.calls kj23 _ _ l0 (wrap64 ((wrap64 (x5_14 + 1)) + 1)) t130 _ ?side1 ?side2 A30.out).mono ?_); (case side1 => repeat (first | exact HR0.out | (with_reducible refine Kd.C_alloc ?_ _) | (with_reducible refine Kd.C_drewN ?_ _) | (with_reducible refine Kd.C_drew ?_))); (case side2 => exact HC0.out); rintro e w' ⟨rfl, ⟨nd, rfl⟩⟩; refine ⟨_, rfl, ?_⟩))
                                          go_ret2
                                          exact ⟨by first | rfl | (simp; done) | (simp [*]; done) | (simp [wrap64]; done), by repeat (first | exact Drawn0.refl _ | apply Drawn0.step)⟩
                                        · rw [if_neg c31] at H
                                          have c31b0 : (t130 == (wrap64 ((wrap64 (x5_14 + 1)) + 1))) = false := beq_eq_false_iff_ne.mpr c31
                                          have c31b1 : (t130 != (wrap64 ((wrap64 (x5_14 + 1)) + 1))) = true := bne_iff_ne.mpr c31
                                          simp only [Option.some.injEq, Prod.mk.injEq] at H
                                          obtain ⟨rfl, rfl⟩ := H
                                          go_wp2_with (first | ((with_reducible refine gate_callee (f := 16) rfl ?_); refine goesL_ (some 96) rfl rfl Tryd.func16 (by kernel_rfl) rfl #[.slice (some ad123) l0.length c0, .int .i64 (wrap64 ((wrap64 (x5_14 + 1)) + 1))] rfl (by (try simp only [List.map_toArray, List.map_cons, List.map_nil]); first | done | rfl | (simp only [List.length_drop, List.length_take]; rfl)) ?_; (with_reducible refine (spec_digits8.calls kj23 _ _ l0 (wrap64 ((wrap64 (x5_14 + 1)) + 1)) t130 _ ?side1 ?side2 A30.out).mono ?_); (case side1 => repeat (first | exact HR0.out | (with_reducible refine Kd.C_alloc ?_ _) | (with_reducible refine Kd.C_drewN ?_ _) | (with_reducible refine Kd.C_drew ?_))); (case side2 => exact HC0.out); rintro e w' ⟨rfl, ⟨nd, rfl⟩⟩; refine ⟨_, rfl, ?_⟩))
                                          go_ret2
                                          exact ⟨by first | rfl | (simp; done) | (simp [*]; done) | (simp [wrap64]; done), by repeat (first | exact Drawn0.refl _ | apply Drawn0.step)⟩
                                      · replace c29 := Bool.eq_false_iff.mpr c29
                                        subst c29
                                        have H1 : ((spec_digits8.f kj23 l0 (wrap64 (x5_14 + 1))).bind fun t131 => (if t131 = (wrap64 (x5_14 + 1)) then (some ((wrap64 (x5_14 + 1)), 3)) else (some (t131, 0)))) = some (r1, r2) := by rw [if_neg (show ¬ (false = true) by decide)] at H; exact H
                                        clear H
                                        have H := H1
                                        clear H1
                                        replace H := Option.bind_eq_some_iff.mp H
                                        obtain ⟨t131, A320, H⟩ := H
                                        replace H : (if t131 = (wrap64 (x5_14 + 1)) then (some ((wrap64 (x5_14 + 1)), 3)) else (some (t131, 0))) = some (r1, r2) := H
                                        have A32 := Aside0.mk A320
                                        clear A320
                                        by_cases c33 : t131 = (wrap64 (x5_14 + 1))
                                        · rw [if_pos c33] at H
                                          have c33b0 : (t131 == (wrap64 (x5_14 + 1))) = true := beq_iff_eq.mpr c33
                                          have c33b1 : (t131 != (wrap64 (x5_14 + 1))) = false := bne_eq_false_iff_eq.mpr c33
                                          clear c33
                                          simp only [Option.some.injEq, Prod.mk.injEq] at H
                                          obtain ⟨rfl, rfl⟩ := H
                                          go_wp2_with (first | ((with_reducible refine gate_callee (f := 16) rfl ?_); refine goesL_ (some 96) rfl rfl Tryd.func16 (by kernel_rfl) rfl #[.slice (some ad123) l0.length c0, .int .i64 (wrap64 (x5_14 + 1))] rfl (by (try simp only [List.map_toArray, List.map_cons, List.map_nil]); first | done | rfl | (simp only [List.length_drop, List.length_take]; rfl)) ?_; (with_reducible refine (spec_digits8.calls kj23 _ _ l0 (wrap64 (x5_14 + 1)) t131 _ ?side1 ?side2 A32.out).mono ?_); (case side1 => repeat (first | exact HR0.out | (with_reducible refine Kd.C_alloc ?_ _) | (with_reducible refine Kd.C_drewN ?_ _) | (with_reducible refine Kd.C_drew ?_))); (case side2 => exact HC0.out); rintro e w' ⟨rfl, ⟨nd, rfl⟩⟩; refine ⟨_, rfl, ?_⟩))
                                          go_ret2
                                          exact ⟨by first | rfl | (simp; done) | (simp [*]; done) | (simp [wrap64]; done), by repeat (first | exact Drawn0.refl _ | apply Drawn0.step)⟩
                                        · rw [if_neg c33] at H
                                          have c33b0 : (t131 == (wrap64 (x5_14 + 1))) = false := beq_eq_false_iff_ne.mpr c33
                                          have c33b1 : (t131 != (wrap64 (x5_14 + 1))) = true := bne_iff_ne.mpr c33
                                          simp only [Option.some.injEq, Prod.mk.injEq] at H
                                          obtain ⟨rfl, rfl⟩ := H
                                          go_wp2_with (first | ((with_reducible refine gate_callee (f := 16) rfl ?_); refine goesL_ (some 96) rfl rfl Tryd.func16 (by kernel_rfl) rfl #[.slice (some ad123) l0.length c0, .int .i64 (wrap64 (x5_14 + 1))] rfl (by (try simp only [List.map_toArray, List.map_cons, List.map_nil]); first | done | rfl | (simp only [List.length_drop, List.length_take]; rfl)) ?_; (with_reducible refine (spec_digits8.calls kj23 _ _ l0 (wrap64 (x5_14 + 1)) t131 _ ?side1 ?side2 A32.out).mono ?_); (case side1 => repeat (first | exact HR0.out | (with_reducible refine Kd.C_alloc ?_ _) | (with_reducible refine Kd.C_drewN ?_ _) | (with_reducible refine Kd.C_drew ?_))); (case side2 => exact HC0.out); rintro e w' ⟨rfl, ⟨nd, rfl⟩⟩; refine ⟨_, rfl, ?_⟩))
                                          go_ret2
                                          exact ⟨by first | rfl | (simp; done) | (simp [*]; done) | (simp [wrap64]; done), by repeat (first | exact Drawn0.refl _ | apply Drawn0.step)⟩
                                · replace c23 := Bool.eq_false_iff.mpr c23
                                  subst c23
                                  have H1 : (some (x5_14, 0)) = some (r1, r2) := by rw [if_neg (show ¬ (false = true) by decide)] at H; exact H
                                  clear H
                                  have H := H1
                                  clear H1
                                  simp only [Option.some.injEq, Prod.mk.injEq] at H
                                  obtain ⟨rfl, rfl⟩ := H
                                  go_wp2
                                  go_ret2
                                  exact ⟨by first | rfl | (simp; done) | (simp [*]; done) | (simp [wrap64]; done), by repeat (first | exact Drawn0.refl _ | apply Drawn0.step)⟩
              · rw [if_neg c9] at H
                exact absurd H (by simp)
            · rw [if_neg c8] at H
              exact absurd H (by simp)

end Go.Proofs.YtoigokgechcaiaaDoor.QNm
