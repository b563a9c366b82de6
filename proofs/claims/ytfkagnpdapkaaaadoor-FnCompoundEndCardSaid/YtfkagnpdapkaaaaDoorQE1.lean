-- Written by a program of this session (wip/tools/myprint.py) out of Lean's own print of the translation.
import Derived.Test.YtfkagnpdapkaaaaDoorQE0
namespace Go.Proofs.YtfkagnpdapkaaaaDoor.QE
open Go.RowKit Go.Proofs.YtfkagnpdapkaaaaDoorW.PrintWords Go.Proofs.YtfkagnpdapkaaaaDoorW.PrintLast Go.Proofs.YtfkagnpdapkaaaaDoorW.PrintMore
attribute [local go_sem] max2_int min2_int max_two min_two max_three min_three max_four min_four   -- for this text's walks alone
open Go.Proofs.YtfkagnpdapkaaaaDoor.Tab
set_option linter.unusedVariables false
set_option linter.unusedSimpArgs false

/-! ### spec_CompoundEnd: function 26 -/
mutual
def spec_CompoundEnd.l0 : Nat → List Int → Int → Bool → Int → Option (Int × Bool × Bool)
  | 0, _, _, _, _ => none
  | k + 1, x0, x7, x8, x9 => if x9 < (x0.length : Int) then (if 0 ≤ x9 then (if x8 = true then (spec_CompoundEnd.j1 k x0 x7 x8 x9 (rd x0 x9) ((rd x0 x9) == 92)) else (spec_CompoundEnd.j1 k x0 x7 x8 x9 (rd x0 x9) false)) else (none)) else (some (0, false, true))
def spec_CompoundEnd.j1 : Nat → List Int → Int → Bool → Int → Int → Bool → Option (Int × Bool × Bool)
  | 0, _, _, _, _, _, _ => none
  | k + 1, x0, x7, x8, x9, x10, x22 => if x22 = true then (spec_CompoundEnd.l0 k x0 x7 x8 (wrap64 ((wrap64 (x9 + 1)) + 1))) else (if x10 = 34 then (spec_CompoundEnd.l0 k x0 x7 (!x8) (wrap64 (x9 + 1))) else (if x8 = true then (spec_CompoundEnd.l0 k x0 x7 x8 (wrap64 (x9 + 1))) else (if x10 = 92 then (some (0, false, false)) else (if x10 = 123 then (spec_CompoundEnd.j2 k x0 x7 x8 x9 x10 true) else (spec_CompoundEnd.j2 k x0 x7 x8 x9 x10 (x10 == 91))))))
def spec_CompoundEnd.j2 : Nat → List Int → Int → Bool → Int → Int → Bool → Option (Int × Bool × Bool)
  | 0, _, _, _, _, _, _ => none
  | k + 1, x0, x7, x8, x9, x10, x40 => if x40 = true then (spec_CompoundEnd.l0 k x0 (wrap64 (x7 + 1)) x8 (wrap64 (x9 + 1))) else (if x10 = 125 then (spec_CompoundEnd.j3 k x0 x7 x8 x9 true) else (spec_CompoundEnd.j3 k x0 x7 x8 x9 (x10 == 93)))
def spec_CompoundEnd.j3 : Nat → List Int → Int → Bool → Int → Bool → Option (Int × Bool × Bool)
  | 0, _, _, _, _, _ => none
  | k + 1, x0, x7, x8, x9, x49 => if x49 = true then (if (wrap64 (x7 - 1)) = 0 then (some (wrap64 (x9 + 1), true, true)) else (spec_CompoundEnd.l0 k x0 (wrap64 (x7 - 1)) x8 (wrap64 (x9 + 1)))) else (spec_CompoundEnd.l0 k x0 x7 x8 (wrap64 (x9 + 1)))
end
def spec_CompoundEnd.f (k : Nat) (l0 : List Int) (a1 : Int) : Option (Int × Bool × Bool) := spec_CompoundEnd.l0 k l0 0 false a1
theorem spec_CompoundEnd.mono_l : ∀ k, (∀ y0 y1 y2 y3, LeO (spec_CompoundEnd.l0 k y0 y1 y2 y3) (spec_CompoundEnd.l0 (k + 1) y0 y1 y2 y3)) ∧ (∀ y0 y1 y2 y3 y4 y5, LeO (spec_CompoundEnd.j1 k y0 y1 y2 y3 y4 y5) (spec_CompoundEnd.j1 (k + 1) y0 y1 y2 y3 y4 y5)) ∧ (∀ y0 y1 y2 y3 y4 y5, LeO (spec_CompoundEnd.j2 k y0 y1 y2 y3 y4 y5) (spec_CompoundEnd.j2 (k + 1) y0 y1 y2 y3 y4 y5)) ∧ (∀ y0 y1 y2 y3 y4, LeO (spec_CompoundEnd.j3 k y0 y1 y2 y3 y4) (spec_CompoundEnd.j3 (k + 1) y0 y1 y2 y3 y4))
  | 0 => ⟨fun _ _ _ _ r h => by simp [spec_CompoundEnd.l0] at h, fun _ _ _ _ _ _ r h => by simp [spec_CompoundEnd.j1] at h, fun _ _ _ _ _ _ r h => by simp [spec_CompoundEnd.j2] at h, fun _ _ _ _ _ r h => by simp [spec_CompoundEnd.j3] at h⟩
  | k + 1 => by
    obtain ⟨ih0, ih1, ih2, ih3⟩ := spec_CompoundEnd.mono_l k
    refine ⟨?_, ?_, ?_, ?_⟩
    · intro y0 y1 y2 y3
      unfold spec_CompoundEnd.l0
      repeat' first
      | (with_reducible exact ih0 _ _ _ _)
      | (with_reducible exact ih1 _ _ _ _ _ _)
      | (with_reducible exact ih2 _ _ _ _ _ _)
      | (with_reducible exact ih3 _ _ _ _ _)
      | (with_reducible exact LeO.refl _)
      | (with_reducible exact LeO.none _)
      | (with_reducible refine LeO.ite ?_ ?_)
      | (with_reducible refine LeO.bind ?_ (fun _ => ?_))
      | exact ih0 _ _ _ _
      | exact ih1 _ _ _ _ _ _
      | exact ih2 _ _ _ _ _ _
      | exact ih3 _ _ _ _ _
      | exact LeO.none _
      | refine LeO.ite ?_ ?_
      | refine LeO.bind ?_ (fun _ => ?_)
    · intro y0 y1 y2 y3 y4 y5
      unfold spec_CompoundEnd.j1
      repeat' first
      | (with_reducible exact ih0 _ _ _ _)
      | (with_reducible exact ih1 _ _ _ _ _ _)
      | (with_reducible exact ih2 _ _ _ _ _ _)
      | (with_reducible exact ih3 _ _ _ _ _)
      | (with_reducible exact LeO.refl _)
      | (with_reducible exact LeO.none _)
      | (with_reducible refine LeO.ite ?_ ?_)
      | (with_reducible refine LeO.bind ?_ (fun _ => ?_))
      | exact ih0 _ _ _ _
      | exact ih1 _ _ _ _ _ _
      | exact ih2 _ _ _ _ _ _
      | exact ih3 _ _ _ _ _
      | exact LeO.none _
      | refine LeO.ite ?_ ?_
      | refine LeO.bind ?_ (fun _ => ?_)
    · intro y0 y1 y2 y3 y4 y5
      unfold spec_CompoundEnd.j2
      repeat' first
      | (with_reducible exact ih0 _ _ _ _)
      | (with_reducible exact ih1 _ _ _ _ _ _)
      | (with_reducible exact ih2 _ _ _ _ _ _)
      | (with_reducible exact ih3 _ _ _ _ _)
      | (with_reducible exact LeO.refl _)
      | (with_reducible exact LeO.none _)
      | (with_reducible refine LeO.ite ?_ ?_)
      | (with_reducible refine LeO.bind ?_ (fun _ => ?_))
      | exact ih0 _ _ _ _
      | exact ih1 _ _ _ _ _ _
      | exact ih2 _ _ _ _ _ _
      | exact ih3 _ _ _ _ _
      | exact LeO.none _
      | refine LeO.ite ?_ ?_
      | refine LeO.bind ?_ (fun _ => ?_)
    · intro y0 y1 y2 y3 y4
      unfold spec_CompoundEnd.j3
      repeat' first
      | (with_reducible exact ih0 _ _ _ _)
      | (with_reducible exact ih1 _ _ _ _ _ _)
      | (with_reducible exact ih2 _ _ _ _ _ _)
      | (with_reducible exact ih3 _ _ _ _ _)
      | (with_reducible exact LeO.refl _)
      | (with_reducible exact LeO.none _)
      | (with_reducible refine LeO.ite ?_ ?_)
      | (with_reducible refine LeO.bind ?_ (fun _ => ?_))
      | exact ih0 _ _ _ _
      | exact ih1 _ _ _ _ _ _
      | exact ih2 _ _ _ _ _ _
      | exact ih3 _ _ _ _ _
      | exact LeO.none _
      | refine LeO.ite ?_ ?_
      | refine LeO.bind ?_ (fun _ => ?_)
theorem spec_CompoundEnd.mono : ∀ a0 a1 k, LeO (spec_CompoundEnd.f k a0 a1) (spec_CompoundEnd.f (k + 1) a0 a1) := by
  intro a0 a1 k
  obtain ⟨ih0, ih1, ih2, ih3⟩ := spec_CompoundEnd.mono_l k
  unfold spec_CompoundEnd.f
  repeat' first
      | (with_reducible exact ih0 _ _ _ _)
      | (with_reducible exact ih1 _ _ _ _ _ _)
      | (with_reducible exact ih2 _ _ _ _ _ _)
      | (with_reducible exact ih3 _ _ _ _ _)
      | (with_reducible exact LeO.refl _)
      | (with_reducible exact LeO.none _)
      | (with_reducible refine LeO.ite ?_ ?_)
      | (with_reducible refine LeO.bind ?_ (fun _ => ?_))
      | exact ih0 _ _ _ _
      | exact ih1 _ _ _ _ _ _
      | exact ih2 _ _ _ _ _ _
      | exact ih3 _ _ _ _ _
      | exact LeO.none _
      | refine LeO.ite ?_ ?_
      | refine LeO.bind ?_ (fun _ => ?_)
set_option maxHeartbeats 8000000 in
set_option maxRecDepth 100000 in
theorem spec_CompoundEnd.calls (k : Nat) (A0 : Option Addr) (c0 : Nat) (l0 : List Int) (a1 : Int) (r1 : Int) (r2 : Bool) (r3 : Bool) (w : World) (hr0 : Kd.C (Kd.int .u8) w A0 l0.length l0) (hc0 : l0.length ≤ c0) (h : spec_CompoundEnd.f k l0 a1 = some (r1, r2, r3)) :
    Calls Tryd.prog 26 #[.slice A0 l0.length c0, .int .i64 a1] w fun e w' => e = .returned (.tuple #[.int .i64 r1, .bool r2, .bool r3]) ∧ Drawn0 w w' := by
  have HR0 := Aside0.mk hr0
  have HC0 := Aside0.mk hc0
  clear hr0 hc0
  have H : (spec_CompoundEnd.l0 k l0 0 false a1) = some (r1, r2, r3) := h
  clear h
  have H' := Aside0.mk H
  clear H
  go_enter Tryd.func26, Tryd.ntmps26
  go_wp2
  go_loopg [7, 8, 9] k (fun kq v7 v8 v9 w' => ∃ (x7_1 : Int) (x8_1 : Bool) (x9_1 : Int), v7 = .int .i64 x7_1 ∧ v8 = .bool x8_1 ∧ v9 = .int .i64 x9_1 ∧ Aside0 (spec_CompoundEnd.l0 kq l0 x7_1 x8_1 x9_1 = some (r1, r2, r3)) ∧ Aside0 (kq ≤ k) ∧ Drawn0 w w')
  case atStart => exact ⟨(0), (false), (a1), (by first | rfl | (simp; done) | (simp [*]; done) | (simp [wrap64]; done)), (by first | rfl | (simp; done) | (simp [*]; done) | (simp [wrap64]; done)), (by first | rfl | (simp; done) | (simp [*]; done) | (simp [wrap64]; done)), H', ⟨Nat.le_refl _⟩, by repeat (first | exact Drawn0.refl _ | apply Drawn0.step)⟩
  case round =>
    clear H'
    try clear c2
    try clear p2
    obtain ⟨x7_1, x8_1, x9_1, rfl, rfl, rfl, HA, HK1, ⟨m1, rfl⟩⟩ := hrel
    cases gk with
    | zero => exact absurd HA.out (by simp [spec_CompoundEnd.l0])
    | succ k1 =>
      have H := HA.out
      clear HA
      simp only [spec_CompoundEnd.l0] at H
      by_cases c3 : x9_1 < (l0.length : Int)
      · rw [if_pos c3] at H
        have c3b0 : decide (x9_1 < (l0.length : Int)) = true := decide_eq_true c3
        clear c3
        by_cases c4 : 0 ≤ x9_1
        · rw [if_pos c4] at H
          have c4b0 : decide (0 ≤ x9_1) = true := decide_eq_true c4
          clear c4
          have HC5 := Aside0.mk H
          clear H
          have p101 : 0 ≤ (x9_1 : Int) := of_decide_eq_true (by first | (with_reducible assumption) | assumption)
          have q101 : x9_1 < (l0.length : Int) := of_decide_eq_true (by first | (with_reducible assumption) | assumption)
          obtain ⟨ad101, e101, hx101_0⟩ := Kd.at_int HR0.out x9_1 p101 q101
          cases e101
          replace p101 := eq_true p101
          replace q101 := eq_true q101
          go_upto_region 6 with (fail)
          go_cut [22] (fun v22 wc => ∃ (kq : Nat) (x22_4 : Bool), v22 = .bool x22_4 ∧ Aside0 (spec_CompoundEnd.j1 kq l0 x7_1 x8_1 x9_1 (rd l0 x9_1) x22_4 = some (r1, r2, r3)) ∧ Aside0 (kq ≤ k1) ∧ Drawn0 w wc)
          case first =>
            have H := HC5.out
            clear HC5
            by_cases c6 : x8_1 = true
            · subst c6
              have H1 : (spec_CompoundEnd.j1 k1 l0 x7_1 true x9_1 (rd l0 x9_1) ((rd l0 x9_1) == 92)) = some (r1, r2, r3) := by rw [if_pos rfl] at H; exact H
              clear H
              have H := H1
              clear H1
              have H' := Aside0.mk H
              clear H
              go_wp2
              go_meet
              case rel => exact ⟨_, (((rd l0 x9_1) == 92)), (by first | rfl | (simp; done) | (simp [*]; done) | (simp [wrap64]; done)), H', ⟨by have := HK1.out; first | omega | exact Nat.le_refl _⟩, by repeat (first | exact Drawn0.refl _ | apply Drawn0.step)⟩
            · replace c6 := Bool.eq_false_iff.mpr c6
              subst c6
              have H1 : (spec_CompoundEnd.j1 k1 l0 x7_1 false x9_1 (rd l0 x9_1) false) = some (r1, r2, r3) := by rw [if_neg (show ¬ (false = true) by decide)] at H; exact H
              clear H
              have H := H1
              clear H1
              have H' := Aside0.mk H
              clear H
              go_wp2
              go_meet
              case rel => exact ⟨_, (false), (by first | rfl | (simp; done) | (simp [*]; done) | (simp [wrap64]; done)), H', ⟨by have := HK1.out; first | omega | exact Nat.le_refl _⟩, by repeat (first | exact Drawn0.refl _ | apply Drawn0.step)⟩
          case rest =>
            clear HC5
            try clear p1
            try clear q1
            try clear hx1
            try clear c2
            try clear p2
            try clear c3
            try clear c3b0
            try clear c4
            try clear c4b0
            try clear c6
            try clear p6
            try clear hx101_0
            try clear p101
            try clear p2
            try clear q101
            obtain ⟨kq, x22_4, rfl, HA, HJ4, ⟨mc4, rfl⟩⟩ := hcut
            cases kq with
            | zero => exact absurd HA.out (by simp [spec_CompoundEnd.j1])
            | succ kj4 =>
              have H := HA.out
              clear HA
              simp only [spec_CompoundEnd.j1] at H
              by_cases c7 : x22_4 = true
              · subst c7
                have H1 : (spec_CompoundEnd.l0 kj4 l0 x7_1 x8_1 (wrap64 ((wrap64 (x9_1 + 1)) + 1))) = some (r1, r2, r3) := by rw [if_pos rfl] at H; exact H
                clear H
                have H := H1
                clear H1
                have H' := Aside0.mk H
                clear H
                go_wp2
                go_roundg kj4
                case measure => have := HK1.out; have := HJ4.out; omega
                case rel => exact ⟨(x7_1), (x8_1), (wrap64 ((wrap64 (x9_1 + 1)) + 1)), (by first | rfl | (simp; done) | (simp [*]; done) | (simp [wrap64]; done)), (by first | rfl | (simp; done) | (simp [*]; done) | (simp [wrap64]; done)), (by first | rfl | (simp; done) | (simp [*]; done) | (simp [wrap64]; done)), H', ⟨by have := HK1.out; have := HJ4.out; omega⟩, by repeat (first | exact Drawn0.refl _ | apply Drawn0.step)⟩
              · replace c7 := Bool.eq_false_iff.mpr c7
                subst c7
                have H1 : (if (rd l0 x9_1) = 34 then (spec_CompoundEnd.l0 kj4 l0 x7_1 (!x8_1) (wrap64 (x9_1 + 1))) else (if x8_1 = true then (spec_CompoundEnd.l0 kj4 l0 x7_1 x8_1 (wrap64 (x9_1 + 1))) else (if (rd l0 x9_1) = 92 then (some (0, false, false)) else (if (rd l0 x9_1) = 123 then (spec_CompoundEnd.j2 kj4 l0 x7_1 x8_1 x9_1 (rd l0 x9_1) true) else (spec_CompoundEnd.j2 kj4 l0 x7_1 x8_1 x9_1 (rd l0 x9_1) ((rd l0 x9_1) == 91)))))) = some (r1, r2, r3) := by rw [if_neg (show ¬ (false = true) by decide)] at H; exact H
                clear H
                have H := H1
                clear H1
                by_cases c8 : (rd l0 x9_1) = 34
                · rw [if_pos c8] at H
                  have c8b0 : ((rd l0 x9_1) == 34) = true := beq_iff_eq.mpr c8
                  have c8b1 : ((rd l0 x9_1) != 34) = false := bne_eq_false_iff_eq.mpr c8
                  clear c8
                  have H' := Aside0.mk H
                  clear H
                  go_wp2
                  go_roundg kj4
                  case measure => have := HK1.out; have := HJ4.out; omega
                  case rel => exact ⟨(x7_1), (!x8_1), (wrap64 (x9_1 + 1)), (by first | rfl | (simp; done) | (simp [*]; done) | (simp [wrap64]; done)), (by first | rfl | (simp; done) | (simp [*]; done) | (simp [wrap64]; done)), (by first | rfl | (simp; done) | (simp [*]; done) | (simp [wrap64]; done)), H', ⟨by have := HK1.out; have := HJ4.out; omega⟩, by repeat (first | exact Drawn0.refl _ | apply Drawn0.step)⟩
                · rw [if_neg c8] at H
                  have c8b0 : ((rd l0 x9_1) == 34) = false := beq_eq_false_iff_ne.mpr c8
                  have c8b1 : ((rd l0 x9_1) != 34) = true := bne_iff_ne.mpr c8
                  by_cases c9 : x8_1 = true
                  · subst c9
                    have H1 : (spec_CompoundEnd.l0 kj4 l0 x7_1 true (wrap64 (x9_1 + 1))) = some (r1, r2, r3) := by rw [if_pos rfl] at H; exact H
                    clear H
                    have H := H1
                    clear H1
                    have H' := Aside0.mk H
                    clear H
                    go_wp2
                    go_roundg kj4
                    case measure => have := HK1.out; have := HJ4.out; omega
                    case rel => exact ⟨(x7_1), (true), (wrap64 (x9_1 + 1)), (by first | rfl | (simp; done) | (simp [*]; done) | (simp [wrap64]; done)), (by first | rfl | (simp; done) | (simp [*]; done) | (simp [wrap64]; done)), (by first | rfl | (simp; done) | (simp [*]; done) | (simp [wrap64]; done)), H', ⟨by have := HK1.out; have := HJ4.out; omega⟩, by repeat (first | exact Drawn0.refl _ | apply Drawn0.step)⟩
                  · replace c9 := Bool.eq_false_iff.mpr c9
                    subst c9
                    have H1 : (if (rd l0 x9_1) = 92 then (some (0, false, false)) else (if (rd l0 x9_1) = 123 then (spec_CompoundEnd.j2 kj4 l0 x7_1 false x9_1 (rd l0 x9_1) true) else (spec_CompoundEnd.j2 kj4 l0 x7_1 false x9_1 (rd l0 x9_1) ((rd l0 x9_1) == 91)))) = some (r1, r2, r3) := by rw [if_neg (show ¬ (false = true) by decide)] at H; exact H
                    clear H
                    have H := H1
                    clear H1
                    by_cases c10 : (rd l0 x9_1) = 92
                    · rw [if_pos c10] at H
                      have c10b0 : ((rd l0 x9_1) == 92) = true := beq_iff_eq.mpr c10
                      have c10b1 : ((rd l0 x9_1) != 92) = false := bne_eq_false_iff_eq.mpr c10
                      clear c10
                      simp only [Option.some.injEq, Prod.mk.injEq] at H
                      obtain ⟨rfl, rfl, rfl⟩ := H
                      go_wp2
                      go_ret3
                      exact ⟨by first | rfl | (simp; done) | (simp [*]; done) | (simp [wrap64]; done), by repeat (first | exact Drawn0.refl _ | apply Drawn0.step)⟩
                    · rw [if_neg c10] at H
                      have c10b0 : ((rd l0 x9_1) == 92) = false := beq_eq_false_iff_ne.mpr c10
                      have c10b1 : ((rd l0 x9_1) != 92) = true := bne_iff_ne.mpr c10
                      have HC11 := Aside0.mk H
                      clear H
                      go_upto_region 13 with (fail)
                      go_cut [40] (fun v40 wc => ∃ (kq : Nat) (x40_10 : Bool), v40 = .bool x40_10 ∧ Aside0 (spec_CompoundEnd.j2 kq l0 x7_1 false x9_1 (rd l0 x9_1) x40_10 = some (r1, r2, r3)) ∧ Aside0 (kq ≤ kj4) ∧ Drawn0 w wc)
                      case first =>
                        have H := HC11.out
                        clear HC11
                        by_cases c12 : (rd l0 x9_1) = 123
                        · rw [if_pos c12] at H
                          have c12b0 : ((rd l0 x9_1) == 123) = true := beq_iff_eq.mpr c12
                          have c12b1 : ((rd l0 x9_1) != 123) = false := bne_eq_false_iff_eq.mpr c12
                          clear c12
                          (first | rw [c12b0] | (simp only [i64_w, i32_w]; rw [c12b0]) | skip)
                          have H' := Aside0.mk H
                          clear H
                          go_wp2
                          go_meet
                          case rel => exact ⟨_, (true), (by first | rfl | (simp; done) | (simp [*]; done) | (simp [wrap64]; done)), H', ⟨by have := HK1.out; have := HJ4.out; first | omega | exact Nat.le_refl _⟩, by repeat (first | exact Drawn0.refl _ | apply Drawn0.step)⟩
                        · rw [if_neg c12] at H
                          have c12b0 : ((rd l0 x9_1) == 123) = false := beq_eq_false_iff_ne.mpr c12
                          have c12b1 : ((rd l0 x9_1) != 123) = true := bne_iff_ne.mpr c12
                          (first | rw [c12b0] | (simp only [i64_w, i32_w]; rw [c12b0]) | skip)
                          have H' := Aside0.mk H
                          clear H
                          go_wp2
                          go_meet
                          case rel => exact ⟨_, (((rd l0 x9_1) == 91)), (by first | rfl | (simp; done) | (simp [*]; done) | (simp [wrap64]; done)), H', ⟨by have := HK1.out; have := HJ4.out; first | omega | exact Nat.le_refl _⟩, by repeat (first | exact Drawn0.refl _ | apply Drawn0.step)⟩
                      case rest =>
                        clear HC11
                        try clear c1
                        try clear p1
                        try clear q1
                        try clear hx1
                        try clear c2
                        try clear p2
                        try clear c3
                        try clear c3b0
                        try clear c4
                        try clear c4b0
                        try clear c6
                        try clear p6
                        try clear c7
                        try clear c8
                        try clear c8b0
                        try clear c8b1
                        try clear c9
                        try clear c10
                        try clear c10b0
                        try clear c10b1
                        try clear p10
                        try clear q10
                        try clear hx10
                        try clear c12
                        try clear c12b0
                        try clear c12b1
                        try clear hx101_0
                        try clear p1
                        try clear p101
                        try clear p2
                        try clear p6
                        try clear q1
                        try clear q101
                        obtain ⟨kq, x40_10, rfl, HA, HJ10, ⟨mc10, rfl⟩⟩ := hcut
                        cases kq with
                        | zero => exact absurd HA.out (by simp [spec_CompoundEnd.j2])
                        | succ kj10 =>
                          have H := HA.out
                          clear HA
                          simp only [spec_CompoundEnd.j2] at H
                          by_cases c13 : x40_10 = true
                          · subst c13
                            have H1 : (spec_CompoundEnd.l0 kj10 l0 (wrap64 (x7_1 + 1)) false (wrap64 (x9_1 + 1))) = some (r1, r2, r3) := by rw [if_pos rfl] at H; exact H
                            clear H
                            have H := H1
                            clear H1
                            have H' := Aside0.mk H
                            clear H
                            go_wp2
                            go_roundg kj10
                            case measure => have := HK1.out; have := HJ4.out; have := HJ10.out; omega
                            case rel => exact ⟨(wrap64 (x7_1 + 1)), (false), (wrap64 (x9_1 + 1)), (by first | rfl | (simp; done) | (simp [*]; done) | (simp [wrap64]; done)), (by first | rfl | (simp; done) | (simp [*]; done) | (simp [wrap64]; done)), (by first | rfl | (simp; done) | (simp [*]; done) | (simp [wrap64]; done)), H', ⟨by have := HK1.out; have := HJ4.out; have := HJ10.out; omega⟩, by repeat (first | exact Drawn0.refl _ | apply Drawn0.step)⟩
                          · replace c13 := Bool.eq_false_iff.mpr c13
                            subst c13
                            have H1 : (if (rd l0 x9_1) = 125 then (spec_CompoundEnd.j3 kj10 l0 x7_1 false x9_1 true) else (spec_CompoundEnd.j3 kj10 l0 x7_1 false x9_1 ((rd l0 x9_1) == 93))) = some (r1, r2, r3) := by rw [if_neg (show ¬ (false = true) by decide)] at H; exact H
                            clear H
                            have H := H1
                            clear H1
                            have HC14 := Aside0.mk H
                            clear H
                            go_upto_region 15 with (fail)
                            go_cut [49] (fun v49 wc => ∃ (kq : Nat) (x49_13 : Bool), v49 = .bool x49_13 ∧ Aside0 (spec_CompoundEnd.j3 kq l0 x7_1 false x9_1 x49_13 = some (r1, r2, r3)) ∧ Aside0 (kq ≤ kj10) ∧ Drawn0 w wc)
                            case first =>
                              have H := HC14.out
                              clear HC14
                              by_cases c15 : (rd l0 x9_1) = 125
                              · rw [if_pos c15] at H
                                have c15b0 : ((rd l0 x9_1) == 125) = true := beq_iff_eq.mpr c15
                                have c15b1 : ((rd l0 x9_1) != 125) = false := bne_eq_false_iff_eq.mpr c15
                                clear c15
                                (first | rw [c15b0] | (simp only [i64_w, i32_w]; rw [c15b0]) | skip)
                                have H' := Aside0.mk H
                                clear H
                                go_wp2
                                go_meet
                                case rel => exact ⟨_, (true), (by first | rfl | (simp; done) | (simp [*]; done) | (simp [wrap64]; done)), H', ⟨by have := HK1.out; have := HJ4.out; have := HJ10.out; first | omega | exact Nat.le_refl _⟩, by repeat (first | exact Drawn0.refl _ | apply Drawn0.step)⟩
                              · rw [if_neg c15] at H
                                have c15b0 : ((rd l0 x9_1) == 125) = false := beq_eq_false_iff_ne.mpr c15
                                have c15b1 : ((rd l0 x9_1) != 125) = true := bne_iff_ne.mpr c15
                                (first | rw [c15b0] | (simp only [i64_w, i32_w]; rw [c15b0]) | skip)
                                have H' := Aside0.mk H
                                clear H
                                go_wp2
                                go_meet
                                case rel => exact ⟨_, (((rd l0 x9_1) == 93)), (by first | rfl | (simp; done) | (simp [*]; done) | (simp [wrap64]; done)), H', ⟨by have := HK1.out; have := HJ4.out; have := HJ10.out; first | omega | exact Nat.le_refl _⟩, by repeat (first | exact Drawn0.refl _ | apply Drawn0.step)⟩
                            case rest =>
                              clear HC14
                              try clear c1
                              try clear p1
                              try clear q1
                              try clear hx1
                              try clear c2
                              try clear p2
                              try clear c3
                              try clear c3b0
                              try clear c4
                              try clear c4b0
                              try clear c6
                              try clear p6
                              try clear c7
                              try clear c8
                              try clear c8b0
                              try clear c8b1
                              try clear c9
                              try clear c10
                              try clear c10b0
                              try clear c10b1
                              try clear p10
                              try clear q10
                              try clear hx10
                              try clear c12
                              try clear c12b0
                              try clear c12b1
                              try clear c13
                              try clear c15
                              try clear c15b0
                              try clear c15b1
                              try clear hx101_0
                              try clear p1
                              try clear p10
                              try clear p101
                              try clear p2
                              try clear p6
                              try clear q1
                              try clear q10
                              try clear q101
                              obtain ⟨kq, x49_13, rfl, HA, HJ13, ⟨mc13, rfl⟩⟩ := hcut
                              cases kq with
                              | zero => exact absurd HA.out (by simp [spec_CompoundEnd.j3])
                              | succ kj13 =>
                                have H := HA.out
                                clear HA
                                simp only [spec_CompoundEnd.j3] at H
                                by_cases c16 : x49_13 = true
                                · subst c16
                                  have H1 : (if (wrap64 (x7_1 - 1)) = 0 then (some (wrap64 (x9_1 + 1), true, true)) else (spec_CompoundEnd.l0 kj13 l0 (wrap64 (x7_1 - 1)) false (wrap64 (x9_1 + 1)))) = some (r1, r2, r3) := by rw [if_pos rfl] at H; exact H
                                  clear H
                                  have H := H1
                                  clear H1
                                  by_cases c17 : (wrap64 (x7_1 - 1)) = 0
                                  · rw [if_pos c17] at H
                                    have c17b0 : ((wrap64 (x7_1 - 1)) == 0) = true := beq_iff_eq.mpr c17
                                    have c17b1 : ((wrap64 (x7_1 - 1)) != 0) = false := bne_eq_false_iff_eq.mpr c17
                                    clear c17
                                    simp only [Option.some.injEq, Prod.mk.injEq] at H
                                    obtain ⟨rfl, rfl, rfl⟩ := H
                                    go_wp2
                                    go_ret3
                                    exact ⟨by first | rfl | (simp; done) | (simp [*]; done) | (simp [wrap64]; done), by repeat (first | exact Drawn0.refl _ | apply Drawn0.step)⟩
                                  · rw [if_neg c17] at H
                                    have c17b0 : ((wrap64 (x7_1 - 1)) == 0) = false := beq_eq_false_iff_ne.mpr c17
                                    have c17b1 : ((wrap64 (x7_1 - 1)) != 0) = true := bne_iff_ne.mpr c17
                                    have H' := Aside0.mk H
                                    clear H
                                    go_wp2
                                    go_roundg kj13
                                    case measure => have := HK1.out; have := HJ4.out; have := HJ10.out; have := HJ13.out; omega
                                    case rel => exact ⟨(wrap64 (x7_1 - 1)), (false), (wrap64 (x9_1 + 1)), (by first | rfl | (simp; done) | (simp [*]; done) | (simp [wrap64]; done)), (by first | rfl | (simp; done) | (simp [*]; done) | (simp [wrap64]; done)), (by first | rfl | (simp; done) | (simp [*]; done) | (simp [wrap64]; done)), H', ⟨by have := HK1.out; have := HJ4.out; have := HJ10.out; have := HJ13.out; omega⟩, by repeat (first | exact Drawn0.refl _ | apply Drawn0.step)⟩
                                · replace c16 := Bool.eq_false_iff.mpr c16
                                  subst c16
                                  have H1 : (spec_CompoundEnd.l0 kj13 l0 x7_1 false (wrap64 (x9_1 + 1))) = some (r1, r2, r3) := by rw [if_neg (show ¬ (false = true) by decide)] at H; exact H
                                  clear H
                                  have H := H1
                                  clear H1
                                  have H' := Aside0.mk H
                                  clear H
                                  go_wp2
                                  go_roundg kj13
                                  case measure => have := HK1.out; have := HJ4.out; have := HJ10.out; have := HJ13.out; omega
                                  case rel => exact ⟨(x7_1), (false), (wrap64 (x9_1 + 1)), (by first | rfl | (simp; done) | (simp [*]; done) | (simp [wrap64]; done)), (by first | rfl | (simp; done) | (simp [*]; done) | (simp [wrap64]; done)), (by first | rfl | (simp; done) | (simp [*]; done) | (simp [wrap64]; done)), H', ⟨by have := HK1.out; have := HJ4.out; have := HJ10.out; have := HJ13.out; omega⟩, by repeat (first | exact Drawn0.refl _ | apply Drawn0.step)⟩
        · rw [if_neg c4] at H
          exact absurd H (by simp)
      · rw [if_neg c3] at H
        have c3b0 : decide (x9_1 < (l0.length : Int)) = false := decide_eq_false c3
        clear c3
        simp only [Option.some.injEq, Prod.mk.injEq] at H
        obtain ⟨rfl, rfl, rfl⟩ := H
        go_wp2
        go_ret3
        exact ⟨by first | rfl | (simp; done) | (simp [*]; done) | (simp [wrap64]; done), by repeat (first | exact Drawn0.refl _ | apply Drawn0.step)⟩

end Go.Proofs.YtfkagnpdapkaaaaDoor.QE
