-- squeezed
-- Written by a program of this session (wip/tools/myprint.py) out of Lean's own print of the translation.
import Derived.Test.YtbikiibpjdiaaaaDoorQ0
namespace Go.Proofs.YtbikiibpjdiaaaaDoor.QH
open Go.RowKit Go.Proofs.YtbikiibpjdiaaaaDoorW.PrintWords Go.Proofs.YtbikiibpjdiaaaaDoorW.PrintLast Go.Proofs.YtbikiibpjdiaaaaDoorW.PrintMore
open Go.Proofs.YtbikiibpjdiaaaaDoor.Tab Go.Proofs.YtbikiibpjdiaaaaDoor.Q0
set_option linter.unusedVariables false
set_option linter.unusedSimpArgs false

/-! ### spec_FirstOf: function 31 -/
def spec_FirstOf.l0 : Nat → Int → List Int → Int → Int → Option (Int)
 | 0, _, _, _, _ => none
 | k + 1, x1, x7, x8, x9 => if x9 < x8 then (if 0 ≤ x9 then (if x9 < (x7.length : Int) then (if (rd x7 x9) = x1 then (some x9) else (spec_FirstOf.l0 k x1 x7 x8 (wrap64 (x9 + 1)))) else (none)) else (none)) else (some (-1))
def spec_FirstOf.f (k : Nat) (l0 : List Int) (a1 : Int) : Option (Int) := spec_FirstOf.l0 k a1 l0 (l0.length : Int) 0
theorem spec_FirstOf.mono_l : ∀ k, (∀ y0 y1 y2 y3, LeO (spec_FirstOf.l0 k y0 y1 y2 y3) (spec_FirstOf.l0 (k + 1) y0 y1 y2 y3))
 | 0 => fun _ _ _ _ r h => by simp [spec_FirstOf.l0] at h
 | k + 1 => by
  have ih0 := spec_FirstOf.mono_l k
  ·intro y0 y1 y2 y3
   unfold spec_FirstOf.l0
   repeat' first
   | (with_reducible exact ih0 _ _ _ _)
   | (with_reducible exact LeO.refl _)
   | (with_reducible exact LeO.none _)
   | (with_reducible refine LeO.ite ?_ ?_)
   | (with_reducible refine LeO.bind ?_ (fun _ => ?_))
   | exact ih0 _ _ _ _
   | exact LeO.none _
   | refine LeO.ite ?_ ?_
   | refine LeO.bind ?_ (fun _ => ?_)
theorem spec_FirstOf.mono : ∀ a0 a1 k, LeO (spec_FirstOf.f k a0 a1) (spec_FirstOf.f (k + 1) a0 a1) := by
 intro a0 a1 k
 have ih0 := spec_FirstOf.mono_l k
 unfold spec_FirstOf.f
 repeat' first
   | (with_reducible exact ih0 _ _ _ _)
   | (with_reducible exact LeO.refl _)
   | (with_reducible exact LeO.none _)
   | (with_reducible refine LeO.ite ?_ ?_)
   | (with_reducible refine LeO.bind ?_ (fun _ => ?_))
   | exact ih0 _ _ _ _
   | exact LeO.none _
   | refine LeO.ite ?_ ?_
   | refine LeO.bind ?_ (fun _ => ?_)
set_option maxHeartbeats 8000000 in
set_option maxRecDepth 100000 in
theorem spec_FirstOf.calls (k : Nat) (A0 : Option Addr) (c0 : Nat) (l0 : List Int) (a1 : Int) (r : Int) (w : World) (hr0 : Kd.C (Kd.int .u8) w A0 l0.length l0) (hc0 : l0.length ≤ c0) (h : spec_FirstOf.f k l0 a1 = some r) :
  Calls Tryd.prog 31 #[.slice A0 l0.length c0, .int .u8 a1] w fun e w' => e = .returned (.int .i64 r) ∧ Drawn0 w w' := by
 have HR0 := Aside0.mk hr0
 have HC0 := Aside0.mk hc0
 clear hr0 hc0
 have H : (spec_FirstOf.l0 k a1 l0 (l0.length : Int) 0) = some r := h
 clear h
 have H' := Aside0.mk H
 clear H
 go_enter Tryd.func31, Tryd.ntmps31
 go_wp2
 go_loopg [9] k (fun kq v9 w' => ∃ (x9_1 : Int), v9 = .int .i64 x9_1 ∧ Aside0 (spec_FirstOf.l0 kq a1 l0 (l0.length : Int) x9_1 = some r) ∧ Aside0 (kq ≤ k) ∧ Drawn0 w w')
 case atStart => exact ⟨(0), (by first | rfl | (simp; done) | (simp [*]; done) | (simp [wrap64]; done)), H', ⟨Nat.le_refl _⟩, by repeat (first | exact Drawn0.refl _ | apply Drawn0.step)⟩
 case round =>
  clear H'
  try clear p2
  obtain ⟨x9_1, rfl, HA, HK1, ⟨m1, rfl⟩⟩ := hrel
  cases gk with
  | zero => exact absurd HA.out (by simp [spec_FirstOf.l0])
  | succ k1 =>
   have H := HA.out
   clear HA
   simp only [spec_FirstOf.l0] at H
   by_cases c3 : x9_1 < (l0.length : Int)
   ·rw [if_pos c3] at H
    have c3b0 : decide (x9_1 < (l0.length : Int)) = true := decide_eq_true c3
    clear c3
    by_cases c4 : 0 ≤ x9_1
    ·rw [if_pos c4] at H
     have c4b0 : decide (0 ≤ x9_1) = true := decide_eq_true c4
     clear c4
     by_cases c5 : x9_1 < (l0.length : Int)
     ·rw [if_pos c5] at H
      have c5b0 : decide (x9_1 < (l0.length : Int)) = true := decide_eq_true c5
      clear c5
      by_cases c6 : (rd l0 x9_1) = a1
      ·rw [if_pos c6] at H
       have c6b0 : ((rd l0 x9_1) == a1) = true := beq_iff_eq.mpr c6
       have c6b1 : ((rd l0 x9_1) != a1) = false := bne_eq_false_iff_eq.mpr c6
       clear c6
       obtain rfl := Option.some.inj H
       have p101 : 0 ≤ (x9_1 : Int) := of_decide_eq_true (by first | (with_reducible assumption) | assumption)
       have q101 : x9_1 < (l0.length : Int) := of_decide_eq_true (by first | (with_reducible assumption) | assumption)
       obtain ⟨ad101, e101, hx101_0⟩ := Kd.at_int HR0.out x9_1 p101 q101
       cases e101
       replace p101 := eq_true p101
       replace q101 := eq_true q101
       go_wp2
       go_ret
       exact ⟨by first | rfl | (simp; done) | (simp [*]; done) | (simp [wrap64]; done), by repeat (first | exact Drawn0.refl _ | apply Drawn0.step)⟩
      ·rw [if_neg c6] at H
       have c6b0 : ((rd l0 x9_1) == a1) = false := beq_eq_false_iff_ne.mpr c6
       have c6b1 : ((rd l0 x9_1) != a1) = true := bne_iff_ne.mpr c6
       have H' := Aside0.mk H
       clear H
       have p101 : 0 ≤ (x9_1 : Int) := of_decide_eq_true (by first | (with_reducible assumption) | assumption)
       have q101 : x9_1 < (l0.length : Int) := of_decide_eq_true (by first | (with_reducible assumption) | assumption)
       obtain ⟨ad101, e101, hx101_0⟩ := Kd.at_int HR0.out x9_1 p101 q101
       cases e101
       replace p101 := eq_true p101
       replace q101 := eq_true q101
       go_wp2
       go_roundg k1
       case measure => have := HK1.out; omega
       case rel => exact ⟨(wrap64 (x9_1 + 1)), (by first | rfl | (simp; done) | (simp [*]; done) | (simp [wrap64]; done)), H', ⟨by have := HK1.out; omega⟩, by repeat (first | exact Drawn0.refl _ | apply Drawn0.step)⟩
     ·rw [if_neg c5] at H
      exact absurd H (by simp)
    ·rw [if_neg c4] at H
     exact absurd H (by simp)
   ·rw [if_neg c3] at H
    have c3b0 : decide (x9_1 < (l0.length : Int)) = false := decide_eq_false c3
    clear c3
    obtain rfl := Option.some.inj H
    go_wp2
    go_ret
    exact ⟨by first | rfl | (simp; done) | (simp [*]; done) | (simp [wrap64]; done), by repeat (first | exact Drawn0.refl _ | apply Drawn0.step)⟩

/-! ### spec_IsHigh: function 30 -/
def spec_IsHigh.l0 : Nat → List Int → Int → Int → Option (Bool)
 | 0, _, _, _ => none
 | k + 1, x5, x6, x7 => if x7 < x6 then (if 0 ≤ x7 then (if x7 < (x5.length : Int) then (if (rd x5 x7) < 32 then (some false) else (spec_IsHigh.l0 k x5 x6 (wrap64 (x7 + 1)))) else (none)) else (none)) else (some true)
def spec_IsHigh.f (k : Nat) (l0 : List Int) : Option (Bool) := spec_IsHigh.l0 k l0 (l0.length : Int) 0
theorem spec_IsHigh.mono_l : ∀ k, (∀ y0 y1 y2, LeO (spec_IsHigh.l0 k y0 y1 y2) (spec_IsHigh.l0 (k + 1) y0 y1 y2))
 | 0 => fun _ _ _ r h => by simp [spec_IsHigh.l0] at h
 | k + 1 => by
  have ih0 := spec_IsHigh.mono_l k
  ·intro y0 y1 y2
   unfold spec_IsHigh.l0
   repeat' first
   | (with_reducible exact ih0 _ _ _)
   | (with_reducible exact LeO.refl _)
   | (with_reducible exact LeO.none _)
   | (with_reducible refine LeO.ite ?_ ?_)
   | (with_reducible refine LeO.bind ?_ (fun _ => ?_))
   | exact ih0 _ _ _
   | exact LeO.none _
   | refine LeO.ite ?_ ?_
   | refine LeO.bind ?_ (fun _ => ?_)
theorem spec_IsHigh.mono : ∀ a0 k, LeO (spec_IsHigh.f k a0) (spec_IsHigh.f (k + 1) a0) := by
 intro a0 k
 have ih0 := spec_IsHigh.mono_l k
 unfold spec_IsHigh.f
 repeat' first
   | (with_reducible exact ih0 _ _ _)
   | (with_reducible exact LeO.refl _)
   | (with_reducible exact LeO.none _)
   | (with_reducible refine LeO.ite ?_ ?_)
   | (with_reducible refine LeO.bind ?_ (fun _ => ?_))
   | exact ih0 _ _ _
   | exact LeO.none _
   | refine LeO.ite ?_ ?_
   | refine LeO.bind ?_ (fun _ => ?_)
set_option maxHeartbeats 8000000 in
set_option maxRecDepth 100000 in
theorem spec_IsHigh.calls (k : Nat) (A0 : Option Addr) (c0 : Nat) (l0 : List Int) (r : Bool) (w : World) (hr0 : Kd.C (Kd.int .u8) w A0 l0.length l0) (hc0 : l0.length ≤ c0) (h : spec_IsHigh.f k l0 = some r) :
  Calls Tryd.prog 30 #[.slice A0 l0.length c0] w fun e w' => e = .returned (.bool r) ∧ Drawn0 w w' := by
 have HR0 := Aside0.mk hr0
 have HC0 := Aside0.mk hc0
 clear hr0 hc0
 have H : (spec_IsHigh.l0 k l0 (l0.length : Int) 0) = some r := h
 clear h
 have H' := Aside0.mk H
 clear H
 go_enter Tryd.func30, Tryd.ntmps30
 go_wp2
 go_loopg [7] k (fun kq v7 w' => ∃ (x7_1 : Int), v7 = .int .i64 x7_1 ∧ Aside0 (spec_IsHigh.l0 kq l0 (l0.length : Int) x7_1 = some r) ∧ Aside0 (kq ≤ k) ∧ Drawn0 w w')
 case atStart => exact ⟨(0), (by first | rfl | (simp; done) | (simp [*]; done) | (simp [wrap64]; done)), H', ⟨Nat.le_refl _⟩, by repeat (first | exact Drawn0.refl _ | apply Drawn0.step)⟩
 case round =>
  clear H'
  obtain ⟨x7_1, rfl, HA, HK1, ⟨m1, rfl⟩⟩ := hrel
  cases gk with
  | zero => exact absurd HA.out (by simp [spec_IsHigh.l0])
  | succ k1 =>
   have H := HA.out
   clear HA
   simp only [spec_IsHigh.l0] at H
   by_cases c2 : x7_1 < (l0.length : Int)
   ·rw [if_pos c2] at H
    have c2b0 : decide (x7_1 < (l0.length : Int)) = true := decide_eq_true c2
    clear c2
    by_cases c3 : 0 ≤ x7_1
    ·rw [if_pos c3] at H
     have c3b0 : decide (0 ≤ x7_1) = true := decide_eq_true c3
     clear c3
     by_cases c4 : x7_1 < (l0.length : Int)
     ·rw [if_pos c4] at H
      have c4b0 : decide (x7_1 < (l0.length : Int)) = true := decide_eq_true c4
      clear c4
      by_cases c5 : (rd l0 x7_1) < 32
      ·rw [if_pos c5] at H
       have c5b0 : decide ((rd l0 x7_1) < 32) = true := decide_eq_true c5
       clear c5
       obtain rfl := Option.some.inj H
       have p102 : 0 ≤ (x7_1 : Int) := of_decide_eq_true (by first | (with_reducible assumption) | assumption)
       have q102 : x7_1 < (l0.length : Int) := of_decide_eq_true (by first | (with_reducible assumption) | assumption)
       obtain ⟨ad102, e102, hx102_0⟩ := Kd.at_int HR0.out x7_1 p102 q102
       cases e102
       replace p102 := eq_true p102
       replace q102 := eq_true q102
       go_wp2
       go_ret
       exact ⟨by first | rfl | (simp; done) | (simp [*]; done) | (simp [wrap64]; done), by repeat (first | exact Drawn0.refl _ | apply Drawn0.step)⟩
      ·rw [if_neg c5] at H
       have c5b0 : decide ((rd l0 x7_1) < 32) = false := decide_eq_false c5
       clear c5
       have H' := Aside0.mk H
       clear H
       have p102 : 0 ≤ (x7_1 : Int) := of_decide_eq_true (by first | (with_reducible assumption) | assumption)
       have q102 : x7_1 < (l0.length : Int) := of_decide_eq_true (by first | (with_reducible assumption) | assumption)
       obtain ⟨ad102, e102, hx102_0⟩ := Kd.at_int HR0.out x7_1 p102 q102
       cases e102
       replace p102 := eq_true p102
       replace q102 := eq_true q102
       go_wp2
       go_roundg k1
       case measure => have := HK1.out; omega
       case rel => exact ⟨(wrap64 (x7_1 + 1)), (by first | rfl | (simp; done) | (simp [*]; done) | (simp [wrap64]; done)), H', ⟨by have := HK1.out; omega⟩, by repeat (first | exact Drawn0.refl _ | apply Drawn0.step)⟩
     ·rw [if_neg c4] at H
      exact absurd H (by simp)
    ·rw [if_neg c3] at H
     exact absurd H (by simp)
   ·rw [if_neg c2] at H
    have c2b0 : decide (x7_1 < (l0.length : Int)) = false := decide_eq_false c2
    clear c2
    obtain rfl := Option.some.inj H
    go_wp2
    go_ret
    exact ⟨by first | rfl | (simp; done) | (simp [*]; done) | (simp [wrap64]; done), by repeat (first | exact Drawn0.refl _ | apply Drawn0.step)⟩

end Go.Proofs.YtbikiibpjdiaaaaDoor.QH
