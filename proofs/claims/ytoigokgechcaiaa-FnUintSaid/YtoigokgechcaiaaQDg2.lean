-- Written by a program of this session (wip/tools/myprint.py) out of Lean's own print of the translation.
import Derived.Test.YtoigokgechcaiaaQDg0
import Derived.Test.YtoigokgechcaiaaQDg1
namespace Go.Proofs.Ytoigokgechcaiaa.QDg
open Go.RowKit Go.Proofs.YtoigokgechcaiaaW.PrintWords Go.Proofs.YtoigokgechcaiaaW.PrintLast Go.Proofs.YtoigokgechcaiaaW.PrintMore
attribute [local go_sem] max2_int min2_int max_two min_two max_three min_three max_four min_four   -- for this text's walks alone
set_option linter.unusedVariables false
set_option linter.unusedSimpArgs false

/-! ### gojsonnum_TwentyDigits: function 25 -/
def gojsonnum_TwentyDigits.l0 : Nat → List Int → Int → Int → Int → Option (Int × Bool)
  | 0, _, _, _, _ => none
  | k + 1, x0, x1, x6, x7 => if x7 < 19 then (if 0 ≤ (wrap64 (x1 + x7)) then (if (wrap64 (x1 + x7)) < (x0.length : Int) then (gojsonnum_TwentyDigits.l0 k x0 x1 (IntKind.u64.wrap ((IntKind.u64.wrap (x6 * 10)) + (((rd x0 (wrap64 (x1 + x7))) - 48) % 256))) (wrap64 (x7 + 1))) else (none)) else (none)) else (if 0 ≤ (wrap64 (x1 + 19)) then (if (wrap64 (x1 + 19)) < (x0.length : Int) then (if x6 > 1844674407370955161 then (some (0, false)) else (if x6 = 1844674407370955161 then (if (((rd x0 (wrap64 (x1 + 19))) - 48) % 256) > 5 then (some (0, false)) else (some (IntKind.u64.wrap ((IntKind.u64.wrap (x6 * 10)) + (((rd x0 (wrap64 (x1 + 19))) - 48) % 256)), true))) else (some (IntKind.u64.wrap ((IntKind.u64.wrap (x6 * 10)) + (((rd x0 (wrap64 (x1 + 19))) - 48) % 256)), true)))) else (none)) else (none))
def gojsonnum_TwentyDigits.f (k : Nat) (l0 : List Int) (a1 : Int) : Option (Int × Bool) := gojsonnum_TwentyDigits.l0 k l0 a1 0 0
theorem gojsonnum_TwentyDigits.mono_l : ∀ k, (∀ y0 y1 y2 y3, LeO (gojsonnum_TwentyDigits.l0 k y0 y1 y2 y3) (gojsonnum_TwentyDigits.l0 (k + 1) y0 y1 y2 y3))
  | 0 => fun _ _ _ _ r h => by simp [gojsonnum_TwentyDigits.l0] at h
  | k + 1 => by
    have ih0 := gojsonnum_TwentyDigits.mono_l k
    · intro y0 y1 y2 y3
      unfold gojsonnum_TwentyDigits.l0
      repeat' first
      | (with_reducible exact ih0 _ _ _ _)
      | (with_reducible exact LeO.refl _)
      | (with_reducible exact LeO.none _)
      | (with_reducible refine LeO.ite ?_ ?_)
      | (with_reducible refine LeO.bind ?_ (fun _ => ?_))
      | exact ih0 _ _ _ _
      | exact LeO.none _
      | refine LeO.ite ?_ ?_
      | refine LeO.bind ?_ (fun _ => ?_)
theorem gojsonnum_TwentyDigits.mono : ∀ a0 a1 k, LeO (gojsonnum_TwentyDigits.f k a0 a1) (gojsonnum_TwentyDigits.f (k + 1) a0 a1) := by
  intro a0 a1 k
  have ih0 := gojsonnum_TwentyDigits.mono_l k
  unfold gojsonnum_TwentyDigits.f
  repeat' first
      | (with_reducible exact ih0 _ _ _ _)
      | (with_reducible exact LeO.refl _)
      | (with_reducible exact LeO.none _)
      | (with_reducible refine LeO.ite ?_ ?_)
      | (with_reducible refine LeO.bind ?_ (fun _ => ?_))
      | exact ih0 _ _ _ _
      | exact LeO.none _
      | refine LeO.ite ?_ ?_
      | refine LeO.bind ?_ (fun _ => ?_)
set_option maxHeartbeats 8000000 in
set_option maxRecDepth 100000 in
theorem gojsonnum_TwentyDigits.calls (k : Nat) (A0 : Option Addr) (c0 : Nat) (l0 : List Int) (a1 : Int) (r1 : Int) (r2 : Bool) (w : World) (hr0 : Kd.C (Kd.int .u8) w A0 l0.length l0) (hc0 : l0.length ≤ c0) (h : gojsonnum_TwentyDigits.f k l0 a1 = some (r1, r2)) :
    Calls Try.prog 25 #[.slice A0 l0.length c0, .int .i64 a1] w fun e w' => e = .returned (.tuple #[.int .u64 r1, .bool r2]) ∧ Drawn0 w w' := by
  have HR0 := Aside0.mk hr0
  have HC0 := Aside0.mk hc0
  clear hr0 hc0
  have H : (gojsonnum_TwentyDigits.l0 k l0 a1 0 0) = some (r1, r2) := h
  clear h
  have H' := Aside0.mk H
  clear H
  go_enter Try.func25, Try.ntmps25
  go_wp2
  go_loopg [6, 7] k (fun kq v6 v7 w' => ∃ (x6_1 : Int) (x7_1 : Int), v6 = .int .u64 x6_1 ∧ v7 = .int .i64 x7_1 ∧ Aside0 (gojsonnum_TwentyDigits.l0 kq l0 a1 x6_1 x7_1 = some (r1, r2)) ∧ Aside0 (kq ≤ k) ∧ Drawn0 w w')
  case atStart => exact ⟨(0), (0), (by first | rfl | (simp; done) | (simp [*]; done) | (simp [wrap64]; done)), (by first | rfl | (simp; done) | (simp [*]; done) | (simp [wrap64]; done)), H', ⟨Nat.le_refl _⟩, by repeat (first | exact Drawn0.refl _ | apply Drawn0.step)⟩
  case round =>
    clear H'
    try clear c2
    try clear p2
    obtain ⟨x6_1, x7_1, rfl, rfl, HA, HK1, ⟨m1, rfl⟩⟩ := hrel
    cases gk with
    | zero => exact absurd HA.out (by simp [gojsonnum_TwentyDigits.l0])
    | succ k1 =>
      have H := HA.out
      clear HA
      simp only [gojsonnum_TwentyDigits.l0] at H
      by_cases c3 : x7_1 < 19
      · rw [if_pos c3] at H
        have c3b0 : decide (x7_1 < 19) = true := decide_eq_true c3
        clear c3
        obtain ⟨ji4, hji4⟩ : ∃ j_ : Int, (wrap64 (a1 + x7_1)) = j_ := ⟨_, rfl⟩
        replace H : (if 0 ≤ (ji4) then (if (ji4) < (l0.length : Int) then (gojsonnum_TwentyDigits.l0 k1 l0 a1 (IntKind.u64.wrap ((IntKind.u64.wrap (x6_1 * 10)) + (((rd l0 (ji4)) - 48) % 256))) (wrap64 (x7_1 + 1))) else (none)) else (none)) = some (r1, r2) := by first | (rw [hji4] at H; exact H) | (simp only [hji4] at H ⊢; exact H)
        have hji4w : (IntKind.i64.wrap (a1 + x7_1)) = ji4 := (i64_w _).trans hji4
        by_cases c5 : 0 ≤ (ji4)
        · rw [if_pos c5] at H
          have c5b0 : decide (0 ≤ (ji4)) = true := decide_eq_true c5
          clear c5
          by_cases c6 : (ji4) < (l0.length : Int)
          · rw [if_pos c6] at H
            have c6b0 : decide ((ji4) < (l0.length : Int)) = true := decide_eq_true c6
            clear c6
            have H' := Aside0.mk H
            clear H
            have p129 : 0 ≤ ((ji4) : Int) := of_decide_eq_true (by first | (with_reducible assumption) | assumption)
            have q129 : (ji4) < (l0.length : Int) := of_decide_eq_true (by first | (with_reducible assumption) | assumption)
            obtain ⟨ad129, e129, hx129_0⟩ := Kd.at_int HR0.out (ji4) p129 q129
            cases e129
            replace p129 := eq_true p129
            replace q129 := eq_true q129
            go_wp2
            first | (go_roundg k1) | (subst hji4; go_roundg k1)
            case measure => have := HK1.out; omega
            case rel => first | (exact ⟨(IntKind.u64.wrap ((IntKind.u64.wrap (x6_1 * 10)) + (((rd l0 (ji4)) - 48) % 256))), (wrap64 (x7_1 + 1)), (by first | rfl | (simp; done) | (simp only [← hji4] <;> (first | rfl | simp)) | (simp [*]; done) | (simp [wrap64]; done)), (by first | rfl | (simp; done) | (simp [*]; done) | (simp [wrap64]; done)), H', ⟨by have := HK1.out; omega⟩, by repeat (first | exact Drawn0.refl _ | apply Drawn0.step)⟩) | (subst hji4; exact ⟨(IntKind.u64.wrap ((IntKind.u64.wrap (x6_1 * 10)) + (((rd l0 ((wrap64 (a1 + x7_1)))) - 48) % 256))), (wrap64 (x7_1 + 1)), (by first | rfl | (simp; done) | (simp only [← hji4] <;> (first | rfl | simp)) | (simp [*]; done) | (simp [wrap64]; done)), (by first | rfl | (simp; done) | (simp [*]; done) | (simp [wrap64]; done)), H', ⟨by have := HK1.out; omega⟩, by repeat (first | exact Drawn0.refl _ | apply Drawn0.step)⟩) | (exact ⟨(IntKind.u64.wrap ((IntKind.u64.wrap (x6_1 * 10)) + (((rd l0 ((wrap64 (a1 + x7_1)))) - 48) % 256))), (wrap64 (x7_1 + 1)), (by first | rfl | (simp; done) | (simp only [← hji4] <;> (first | rfl | simp)) | (simp [*]; done) | (simp [wrap64]; done)), (by first | rfl | (simp; done) | (simp [*]; done) | (simp [wrap64]; done)), H', ⟨by have := HK1.out; omega⟩, by repeat (first | exact Drawn0.refl _ | apply Drawn0.step)⟩)
          · rw [if_neg c6] at H
            exact absurd H (by simp)
        · rw [if_neg c5] at H
          exact absurd H (by simp)
      · rw [if_neg c3] at H
        have c3b0 : decide (x7_1 < 19) = false := decide_eq_false c3
        clear c3
        obtain ⟨ji7, hji7⟩ : ∃ j_ : Int, (wrap64 (a1 + 19)) = j_ := ⟨_, rfl⟩
        replace H : (if 0 ≤ (ji7) then (if (ji7) < (l0.length : Int) then (if x6_1 > 1844674407370955161 then (some (0, false)) else (if x6_1 = 1844674407370955161 then (if (((rd l0 (ji7)) - 48) % 256) > 5 then (some (0, false)) else (some (IntKind.u64.wrap ((IntKind.u64.wrap (x6_1 * 10)) + (((rd l0 (ji7)) - 48) % 256)), true))) else (some (IntKind.u64.wrap ((IntKind.u64.wrap (x6_1 * 10)) + (((rd l0 (ji7)) - 48) % 256)), true)))) else (none)) else (none)) = some (r1, r2) := by first | (rw [hji7] at H; exact H) | (simp only [hji7] at H ⊢; exact H)
        have hji7w : (IntKind.i64.wrap (a1 + 19)) = ji7 := (i64_w _).trans hji7
        by_cases c8 : 0 ≤ (ji7)
        · rw [if_pos c8] at H
          have c8b0 : decide (0 ≤ (ji7)) = true := decide_eq_true c8
          clear c8
          by_cases c9 : (ji7) < (l0.length : Int)
          · rw [if_pos c9] at H
            have c9b0 : decide ((ji7) < (l0.length : Int)) = true := decide_eq_true c9
            clear c9
            by_cases c10 : x6_1 > 1844674407370955161
            · rw [if_pos c10] at H
              have c10b0 : decide (1844674407370955161 < x6_1) = true := decide_eq_true c10
              clear c10
              simp only [Option.some.injEq, Prod.mk.injEq] at H
              obtain ⟨rfl, rfl⟩ := H
              have p130 : 0 ≤ ((ji7) : Int) := of_decide_eq_true (by first | (with_reducible assumption) | assumption)
              have q130 : (ji7) < (l0.length : Int) := of_decide_eq_true (by first | (with_reducible assumption) | assumption)
              obtain ⟨ad130, e130, hx130_0⟩ := Kd.at_int HR0.out (ji7) p130 q130
              cases e130
              replace p130 := eq_true p130
              replace q130 := eq_true q130
              go_wp2
              go_ret2
              exact ⟨by first | rfl | (simp; done) | (simp only [← hji7] <;> (first | rfl | simp)) | (simp [*]; done) | (simp [wrap64]; done), by repeat (first | exact Drawn0.refl _ | apply Drawn0.step)⟩
            · rw [if_neg c10] at H
              have c10b0 : decide (1844674407370955161 < x6_1) = false := decide_eq_false c10
              clear c10
              by_cases c11 : x6_1 = 1844674407370955161
              · rw [if_pos c11] at H
                have c11b0 : (x6_1 == 1844674407370955161) = true := beq_iff_eq.mpr c11
                have c11b1 : (x6_1 != 1844674407370955161) = false := bne_eq_false_iff_eq.mpr c11
                clear c11
                by_cases c12 : (((rd l0 (ji7)) - 48) % 256) > 5
                · rw [if_pos c12] at H
                  have c12b0 : decide (5 < (((rd l0 (ji7)) - 48) % 256)) = true := decide_eq_true c12
                  clear c12
                  simp only [Option.some.injEq, Prod.mk.injEq] at H
                  obtain ⟨rfl, rfl⟩ := H
                  have p130 : 0 ≤ ((ji7) : Int) := of_decide_eq_true (by first | (with_reducible assumption) | assumption)
                  have q130 : (ji7) < (l0.length : Int) := of_decide_eq_true (by first | (with_reducible assumption) | assumption)
                  obtain ⟨ad130, e130, hx130_0⟩ := Kd.at_int HR0.out (ji7) p130 q130
                  cases e130
                  replace p130 := eq_true p130
                  replace q130 := eq_true q130
                  go_wp2
                  go_ret2
                  exact ⟨by first | rfl | (simp; done) | (simp only [← hji7] <;> (first | rfl | simp)) | (simp [*]; done) | (simp [wrap64]; done), by repeat (first | exact Drawn0.refl _ | apply Drawn0.step)⟩
                · rw [if_neg c12] at H
                  have c12b0 : decide (5 < (((rd l0 (ji7)) - 48) % 256)) = false := decide_eq_false c12
                  clear c12
                  simp only [Option.some.injEq, Prod.mk.injEq] at H
                  obtain ⟨rfl, rfl⟩ := H
                  have p130 : 0 ≤ ((ji7) : Int) := of_decide_eq_true (by first | (with_reducible assumption) | assumption)
                  have q130 : (ji7) < (l0.length : Int) := of_decide_eq_true (by first | (with_reducible assumption) | assumption)
                  obtain ⟨ad130, e130, hx130_0⟩ := Kd.at_int HR0.out (ji7) p130 q130
                  cases e130
                  replace p130 := eq_true p130
                  replace q130 := eq_true q130
                  go_wp2
                  go_ret2
                  exact ⟨by first | rfl | (simp; done) | (simp only [← hji7] <;> (first | rfl | simp)) | (simp [*]; done) | (simp [wrap64]; done), by repeat (first | exact Drawn0.refl _ | apply Drawn0.step)⟩
              · rw [if_neg c11] at H
                have c11b0 : (x6_1 == 1844674407370955161) = false := beq_eq_false_iff_ne.mpr c11
                have c11b1 : (x6_1 != 1844674407370955161) = true := bne_iff_ne.mpr c11
                simp only [Option.some.injEq, Prod.mk.injEq] at H
                obtain ⟨rfl, rfl⟩ := H
                have p130 : 0 ≤ ((ji7) : Int) := of_decide_eq_true (by first | (with_reducible assumption) | assumption)
                have q130 : (ji7) < (l0.length : Int) := of_decide_eq_true (by first | (with_reducible assumption) | assumption)
                obtain ⟨ad130, e130, hx130_0⟩ := Kd.at_int HR0.out (ji7) p130 q130
                cases e130
                replace p130 := eq_true p130
                replace q130 := eq_true q130
                go_wp2
                go_ret2
                exact ⟨by first | rfl | (simp; done) | (simp only [← hji7] <;> (first | rfl | simp)) | (simp [*]; done) | (simp [wrap64]; done), by repeat (first | exact Drawn0.refl _ | apply Drawn0.step)⟩
          · rw [if_neg c9] at H
            exact absurd H (by simp)
        · rw [if_neg c8] at H
          exact absurd H (by simp)

/-! ### impl_TwentyDigits: function 15 -/
def impl_TwentyDigits.f (k : Nat) (l0 : List Int) (a1 : Int) : Option (Int × Bool) := (gojsonnum_TwentyDigits.f k l0 a1).bind fun bt131 => (some (bt131.1, bt131.2))
theorem impl_TwentyDigits.mono : ∀ a0 a1 k, LeO (impl_TwentyDigits.f k a0 a1) (impl_TwentyDigits.f (k + 1) a0 a1) := by
  intro a0 a1 k
  unfold impl_TwentyDigits.f
  repeat' first
      | (with_reducible exact gojsonnum_TwentyDigits.mono _ _ _)
      | (with_reducible exact LeO.refl _)
      | (with_reducible exact LeO.none _)
      | (with_reducible refine LeO.ite ?_ ?_)
      | (with_reducible refine LeO.bind ?_ (fun _ => ?_))
      | exact gojsonnum_TwentyDigits.mono _ _ _
      | exact LeO.none _
      | refine LeO.ite ?_ ?_
      | refine LeO.bind ?_ (fun _ => ?_)
set_option maxHeartbeats 8000000 in
set_option maxRecDepth 100000 in
theorem impl_TwentyDigits.calls (k : Nat) (A0 : Option Addr) (c0 : Nat) (l0 : List Int) (a1 : Int) (r1 : Int) (r2 : Bool) (w : World) (hr0 : Kd.C (Kd.int .u8) w A0 l0.length l0) (hc0 : l0.length ≤ c0) (h : impl_TwentyDigits.f k l0 a1 = some (r1, r2)) :
    Calls Try.prog 15 #[.slice A0 l0.length c0, .int .i64 a1] w fun e w' => e = .returned (.tuple #[.int .u64 r1, .bool r2]) ∧ Drawn0 w w' := by
  have HR0 := Aside0.mk hr0
  have HC0 := Aside0.mk hc0
  clear hr0 hc0
  have H : ((gojsonnum_TwentyDigits.f k l0 a1).bind fun bt131 => (some (bt131.1, bt131.2))) = some (r1, r2) := h
  clear h
  replace H := Option.bind_eq_some_iff.mp H
  obtain ⟨⟨t131, t132⟩, A30, H⟩ := H
  replace H : (some (t131, t132)) = some (r1, r2) := H
  have A3 := Aside0.mk A30
  clear A30
  simp only [Option.some.injEq, Prod.mk.injEq] at H
  obtain ⟨rfl, rfl⟩ := H
  go_enter Try.func15, Try.ntmps15
  go_wp2_with (first | ((with_reducible refine gate_callee (f := 25) rfl ?_); refine goesL_ (some 8) rfl rfl Try.func25 (by kernel_rfl) rfl #[.slice A0 l0.length c0, .int .i64 a1] rfl (by (try simp only [List.map_toArray, List.map_cons, List.map_nil]); first | done | rfl | (simp only [List.length_drop, List.length_take]; rfl)) ?_; (with_reducible refine (gojsonnum_TwentyDigits.calls k _ _ l0 a1 t131 t132 _ ?side1 ?side2 A3.out).mono ?_); (case side1 => repeat (first | exact HR0.out | (with_reducible refine Kd.C_alloc ?_ _) | (with_reducible refine Kd.C_drewN ?_ _) | (with_reducible refine Kd.C_drew ?_))); (case side2 => exact HC0.out); rintro e w' ⟨rfl, ⟨nd, rfl⟩⟩; refine ⟨_, rfl, ?_⟩))
  go_ret2
  exact ⟨by first | rfl | (simp; done) | (simp [*]; done) | (simp [wrap64]; done), by repeat (first | exact Drawn0.refl _ | apply Drawn0.step)⟩

/-! ### laws_FnTwentyDigits: function 6 -/
def laws_FnTwentyDigits.j0 : Nat → List Int → Int → Bool → Option (Bool)
  | 0, _, _, _ => none
  | k + 1, x0, x1, x39 => if x39 = true then (some true) else (if 0 ≤ x1 then (if x1 ≤ (wrap64 (x1 + 20)) then (if (wrap64 (x1 + 20)) ≤ (x0.length : Int) then ((spec_Value8.f k ((x0.take ((wrap64 (x1 + 20)) : Int).toNat).drop (x1 : Int).toNat)).bind fun bt136 => ((laws_terminated8.f x0).bind fun t138 => ((impl_TwentyDigits.f k t138 x1).bind fun bt141 => (if (bt141.2 == bt136.2) = true then (if bt136.2 = true then (some (bt141.1 == bt136.1)) else (some true)) else (some false))))) else (none)) else (none)) else (none))
def laws_FnTwentyDigits.f (k : Nat) (l0 : List Int) (a1 : Int) : Option (Bool) := if (l0.length : Int) > 2147483647 then (some true) else (if (l0.length : Int) > 1000 then (laws_FnTwentyDigits.j0 k l0 a1 true) else (if a1 < 0 then (laws_FnTwentyDigits.j0 k l0 a1 true) else (if a1 ≥ (l0.length : Int) then (laws_FnTwentyDigits.j0 k l0 a1 true) else (if 0 ≤ a1 then (if a1 < (l0.length : Int) then (if (rd l0 a1) = 48 then (laws_FnTwentyDigits.j0 k l0 a1 true) else ((spec_DigitsEnd8.f k l0 a1).bind fun t134 => (laws_FnTwentyDigits.j0 k l0 a1 (t134 != (wrap64 (a1 + 20)))))) else (none)) else (none)))))
theorem laws_FnTwentyDigits.mono_l : ∀ k, (∀ y0 y1 y2, LeO (laws_FnTwentyDigits.j0 k y0 y1 y2) (laws_FnTwentyDigits.j0 (k + 1) y0 y1 y2))
  | 0 => fun _ _ _ r h => by simp [laws_FnTwentyDigits.j0] at h
  | k + 1 => by
    have ih0 := laws_FnTwentyDigits.mono_l k
    · intro y0 y1 y2
      unfold laws_FnTwentyDigits.j0
      repeat' first
      | (with_reducible exact ih0 _ _ _)
      | (with_reducible exact impl_TwentyDigits.mono _ _ _)
      | (with_reducible exact spec_DigitsEnd8.mono _ _ _)
      | (with_reducible exact spec_Value8.mono _ _)
      | (with_reducible exact LeO.refl _)
      | (with_reducible exact LeO.none _)
      | (with_reducible refine LeO.ite ?_ ?_)
      | (with_reducible refine LeO.bind ?_ (fun _ => ?_))
      | exact ih0 _ _ _
      | exact impl_TwentyDigits.mono _ _ _
      | exact spec_DigitsEnd8.mono _ _ _
      | exact spec_Value8.mono _ _
      | exact LeO.none _
      | refine LeO.ite ?_ ?_
      | refine LeO.bind ?_ (fun _ => ?_)
theorem laws_FnTwentyDigits.mono : ∀ a0 a1 k, LeO (laws_FnTwentyDigits.f k a0 a1) (laws_FnTwentyDigits.f (k + 1) a0 a1) := by
  intro a0 a1 k
  have ih0 := laws_FnTwentyDigits.mono_l k
  unfold laws_FnTwentyDigits.f
  repeat' first
      | (with_reducible exact ih0 _ _ _)
      | (with_reducible exact impl_TwentyDigits.mono _ _ _)
      | (with_reducible exact spec_DigitsEnd8.mono _ _ _)
      | (with_reducible exact spec_Value8.mono _ _)
      | (with_reducible exact LeO.refl _)
      | (with_reducible exact LeO.none _)
      | (with_reducible refine LeO.ite ?_ ?_)
      | (with_reducible refine LeO.bind ?_ (fun _ => ?_))
      | exact ih0 _ _ _
      | exact impl_TwentyDigits.mono _ _ _
      | exact spec_DigitsEnd8.mono _ _ _
      | exact spec_Value8.mono _ _
      | exact LeO.none _
      | refine LeO.ite ?_ ?_
      | refine LeO.bind ?_ (fun _ => ?_)
set_option maxHeartbeats 8000000 in
set_option maxRecDepth 100000 in
theorem laws_FnTwentyDigits.calls (k : Nat) (A0 : Option Addr) (c0 : Nat) (l0 : List Int) (a1 : Int) (r : Bool) (w : World) (hr0 : Kd.C (Kd.int .u8) w A0 l0.length l0) (hc0 : l0.length ≤ c0) (h : laws_FnTwentyDigits.f k l0 a1 = some r) :
    Calls Try.prog 6 #[.slice A0 l0.length c0, .int .i64 a1] w fun e w' => e = .returned (.bool r) ∧ Below w.heap.size w w' := by
  have HR0 := Aside0.mk hr0
  have HC0 := Aside0.mk hc0
  clear hr0 hc0
  have HB := Aside0.mk (Below.refl w.heap.size w)
  have H : (if (l0.length : Int) > 2147483647 then (some true) else (if (l0.length : Int) > 1000 then (laws_FnTwentyDigits.j0 k l0 a1 true) else (if a1 < 0 then (laws_FnTwentyDigits.j0 k l0 a1 true) else (if a1 ≥ (l0.length : Int) then (laws_FnTwentyDigits.j0 k l0 a1 true) else (if 0 ≤ a1 then (if a1 < (l0.length : Int) then (if (rd l0 a1) = 48 then (laws_FnTwentyDigits.j0 k l0 a1 true) else ((spec_DigitsEnd8.f k l0 a1).bind fun t134 => (laws_FnTwentyDigits.j0 k l0 a1 (t134 != (wrap64 (a1 + 20)))))) else (none)) else (none)))))) = some r := h
  clear h
  by_cases c3 : (l0.length : Int) > 2147483647
  · rw [if_pos c3] at H
    have c3b0 : decide (2147483647 < (l0.length : Int)) = true := decide_eq_true c3
    have c3b1 : decide (2147483647 < l0.length) = true := decide_eq_true (by omega)
    clear c3
    obtain rfl := Option.some.inj H
    go_enter Try.func6, Try.ntmps6
    go_wp2
    go_ret
    exact ⟨by first | rfl | (simp [errW_none, errW_some] <;> rfl) | (simp [*, errW_none, errW_some] <;> rfl), by repeat (first | (with_reducible first | exact HB.out | apply below_alloc | apply pw_below_drewN | apply below_drew1) | exact HB.out)⟩
  · rw [if_neg c3] at H
    have c3b0 : decide (2147483647 < (l0.length : Int)) = false := decide_eq_false c3
    have c3b1 : decide (2147483647 < l0.length) = false := decide_eq_false (by omega)
    clear c3
    have HC4 := Aside0.mk H
    clear H
    go_enter Try.func6, Try.ntmps6
    go_upto_region 3 with (fail)
    go_cut [39] (fun v39 wc => ∃ (kq : Nat) (x39_3 : Bool), v39 = .bool x39_3 ∧ Aside0 (laws_FnTwentyDigits.j0 kq l0 a1 x39_3 = some r) ∧ Aside0 (kq ≤ k) ∧ Aside0 (Below w.heap.size w wc))
    case first =>
      have H := HC4.out
      clear HC4
      by_cases c5 : (l0.length : Int) > 1000
      · rw [if_pos c5] at H
        have c5b0 : decide (1000 < (l0.length : Int)) = true := decide_eq_true c5
        have c5b1 : decide (1000 < l0.length) = true := decide_eq_true (by omega)
        clear c5
        (first | rw [c5b0] | (simp only [i64_w, i32_w]; rw [c5b0]) | skip)
        have H' := Aside0.mk H
        clear H
        go_wp2
        go_meet
        case rel => exact ⟨_, (true), (by first | rfl | (simp; done) | (simp [*]; done) | (simp [wrap64]; done)), H', ⟨by first | omega | exact Nat.le_refl _⟩, ⟨by repeat (first | (with_reducible first | exact HB.out | apply below_alloc | apply pw_below_drewN | apply below_drew1) | exact HB.out)⟩⟩
      · rw [if_neg c5] at H
        have c5b0 : decide (1000 < (l0.length : Int)) = false := decide_eq_false c5
        have c5b1 : decide (1000 < l0.length) = false := decide_eq_false (by omega)
        clear c5
        (first | rw [c5b0] | (simp only [i64_w, i32_w]; rw [c5b0]) | skip)
        by_cases c6 : a1 < 0
        · rw [if_pos c6] at H
          have c6b0 : decide (a1 < 0) = true := decide_eq_true c6
          clear c6
          have H' := Aside0.mk H
          clear H
          go_wp2
          go_meet
          case rel => exact ⟨_, (true), (by first | rfl | (simp; done) | (simp [*]; done) | (simp [wrap64]; done)), H', ⟨by first | omega | exact Nat.le_refl _⟩, ⟨by repeat (first | (with_reducible first | exact HB.out | apply below_alloc | apply pw_below_drewN | apply below_drew1) | exact HB.out)⟩⟩
        · rw [if_neg c6] at H
          have c6b0 : decide (a1 < 0) = false := decide_eq_false c6
          clear c6
          by_cases c7 : a1 ≥ (l0.length : Int)
          · rw [if_pos c7] at H
            have c7b0 : decide ((l0.length : Int) ≤ a1) = true := decide_eq_true c7
            clear c7
            have H' := Aside0.mk H
            clear H
            go_wp2
            go_meet
            case rel => exact ⟨_, (true), (by first | rfl | (simp; done) | (simp [*]; done) | (simp [wrap64]; done)), H', ⟨by first | omega | exact Nat.le_refl _⟩, ⟨by repeat (first | (with_reducible first | exact HB.out | apply below_alloc | apply pw_below_drewN | apply below_drew1) | exact HB.out)⟩⟩
          · rw [if_neg c7] at H
            have c7b0 : decide ((l0.length : Int) ≤ a1) = false := decide_eq_false c7
            clear c7
            by_cases c8 : 0 ≤ a1
            · rw [if_pos c8] at H
              have c8b0 : decide (0 ≤ a1) = true := decide_eq_true c8
              clear c8
              by_cases c9 : a1 < (l0.length : Int)
              · rw [if_pos c9] at H
                have c9b0 : decide (a1 < (l0.length : Int)) = true := decide_eq_true c9
                clear c9
                by_cases c10 : (rd l0 a1) = 48
                · rw [if_pos c10] at H
                  have c10b0 : ((rd l0 a1) == 48) = true := beq_iff_eq.mpr c10
                  have c10b1 : ((rd l0 a1) != 48) = false := bne_eq_false_iff_eq.mpr c10
                  clear c10
                  have H' := Aside0.mk H
                  clear H
                  have p133 : 0 ≤ (a1 : Int) := of_decide_eq_true (by first | (with_reducible assumption) | assumption)
                  have q133 : a1 < (l0.length : Int) := of_decide_eq_true (by first | (with_reducible assumption) | assumption)
                  obtain ⟨ad133, e133, hx133_0⟩ := Kd.at_int HR0.out a1 p133 q133
                  cases e133
                  replace hx133_0 := (HB.out.cell (World.block_lt_of_cell? w _ hx133_0)).trans hx133_0
                  replace p133 := eq_true p133
                  replace q133 := eq_true q133
                  go_wp2
                  go_meet
                  case rel => exact ⟨_, (true), (by first | rfl | (simp; done) | (simp [*]; done) | (simp [wrap64]; done)), H', ⟨by first | omega | exact Nat.le_refl _⟩, ⟨by repeat (first | (with_reducible first | exact HB.out | apply below_alloc | apply pw_below_drewN | apply below_drew1) | exact HB.out)⟩⟩
                · rw [if_neg c10] at H
                  have c10b0 : ((rd l0 a1) == 48) = false := beq_eq_false_iff_ne.mpr c10
                  have c10b1 : ((rd l0 a1) != 48) = true := bne_iff_ne.mpr c10
                  replace H := Option.bind_eq_some_iff.mp H
                  obtain ⟨t134, A110, H⟩ := H
                  replace H : (laws_FnTwentyDigits.j0 k l0 a1 (t134 != (wrap64 (a1 + 20)))) = some r := H
                  have A11 := Aside0.mk A110
                  clear A110
                  have H' := Aside0.mk H
                  clear H
                  have p133 : 0 ≤ (a1 : Int) := of_decide_eq_true (by first | (with_reducible assumption) | assumption)
                  have q133 : a1 < (l0.length : Int) := of_decide_eq_true (by first | (with_reducible assumption) | assumption)
                  obtain ⟨ad133, e133, hx133_0⟩ := Kd.at_int HR0.out a1 p133 q133
                  cases e133
                  replace hx133_0 := (HB.out.cell (World.block_lt_of_cell? w _ hx133_0)).trans hx133_0
                  replace p133 := eq_true p133
                  replace q133 := eq_true q133
                  go_wp2_with (first | (go_at_call 13; (with_reducible refine (spec_DigitsEnd8.calls k _ _ l0 a1 t134 _ ?side1 ?side2 A11.out).mono ?_); (case side1 => repeat (first | exact (Kd.C_below HR0.out HB.out) | (with_reducible refine Kd.C_alloc ?_ _) | (with_reducible refine Kd.C_drewN ?_ _) | (with_reducible refine Kd.C_drew ?_))); (case side2 => exact HC0.out); rintro e w' ⟨rfl, ⟨nd, rfl⟩⟩))
                  go_meet
                  case rel => exact ⟨_, ((t134 != (wrap64 (a1 + 20)))), (by first | rfl | (simp; done) | (simp [*]; done) | (simp [wrap64]; done)), H', ⟨by first | omega | exact Nat.le_refl _⟩, ⟨by repeat (first | (with_reducible first | exact HB.out | apply below_alloc | apply pw_below_drewN | apply below_drew1) | exact HB.out)⟩⟩
              · rw [if_neg c9] at H
                exact absurd H (by simp)
            · rw [if_neg c8] at H
              exact absurd H (by simp)
    case rest =>
      clear HC4
      try clear c1
      try clear p1
      try clear q1
      try clear hx1
      try clear p2
      try clear c3
      try clear c3b0
      try clear c3b1
      try clear c5
      try clear c5b0
      try clear c5b1
      try clear c6
      try clear c6b0
      try clear p6
      try clear c7
      try clear c7b0
      try clear c8
      try clear c8b0
      try clear c9
      try clear c9b0
      try clear c10
      try clear c10b0
      try clear c10b1
      try clear hx133_0
      try clear p133
      try clear q133
      obtain ⟨kq, x39_3, rfl, HA, HJ3, HB⟩ := hcut
      cases kq with
      | zero => exact absurd HA.out (by simp [laws_FnTwentyDigits.j0])
      | succ kj3 =>
        have H := HA.out
        clear HA
        simp only [laws_FnTwentyDigits.j0] at H
        by_cases c12 : x39_3 = true
        · subst c12
          have H1 : (some true) = some r := by rw [if_pos rfl] at H; exact H
          clear H
          have H := H1
          clear H1
          obtain rfl := Option.some.inj H
          go_wp2
          go_ret
          exact ⟨by first | rfl | (simp [errW_none, errW_some] <;> rfl) | (simp [*, errW_none, errW_some] <;> rfl), by repeat (first | (with_reducible first | exact HB.out | apply below_alloc | apply pw_below_drewN | apply below_drew1) | exact HB.out)⟩
        · replace c12 := Bool.eq_false_iff.mpr c12
          subst c12
          have H1 : (if 0 ≤ a1 then (if a1 ≤ (wrap64 (a1 + 20)) then (if (wrap64 (a1 + 20)) ≤ (l0.length : Int) then ((spec_Value8.f kj3 ((l0.take ((wrap64 (a1 + 20)) : Int).toNat).drop (a1 : Int).toNat)).bind fun bt136 => ((laws_terminated8.f l0).bind fun t138 => ((impl_TwentyDigits.f kj3 t138 a1).bind fun bt141 => (if (bt141.2 == bt136.2) = true then (if bt136.2 = true then (some (bt141.1 == bt136.1)) else (some true)) else (some false))))) else (none)) else (none)) else (none)) = some r := by rw [if_neg (show ¬ (false = true) by decide)] at H; exact H
          clear H
          have H := H1
          clear H1
          by_cases c13 : 0 ≤ a1
          · rw [if_pos c13] at H
            have c13b0 := eq_true c13
            have c13b1 : decide (0 ≤ a1) = true := decide_eq_true c13
            clear c13
            by_cases c14 : a1 ≤ (wrap64 (a1 + 20))
            · rw [if_pos c14] at H
              have c14b0 := eq_true c14
              have c14b1 : decide (a1 ≤ (wrap64 (a1 + 20))) = true := decide_eq_true c14
              by_cases c15 : (wrap64 (a1 + 20)) ≤ (l0.length : Int)
              · rw [if_pos c15] at H
                have c15b0 := eq_true c15
                have c15b1 : decide ((wrap64 (a1 + 20)) ≤ (l0.length : Int)) = true := decide_eq_true c15
                replace H := Option.bind_eq_some_iff.mp H
                obtain ⟨⟨t136, t137⟩, A160, H⟩ := H
                replace H : ((laws_terminated8.f l0).bind fun t138 => ((impl_TwentyDigits.f kj3 t138 a1).bind fun bt141 => (if (bt141.2 == t137) = true then (if t137 = true then (some (bt141.1 == t136)) else (some true)) else (some false)))) = some r := H
                have A16 := Aside0.mk A160
                clear A160
                replace H := Option.bind_eq_some_iff.mp H
                obtain ⟨t138, A170, H⟩ := H
                replace H : ((impl_TwentyDigits.f kj3 t138 a1).bind fun bt141 => (if (bt141.2 == t137) = true then (if t137 = true then (some (bt141.1 == t136)) else (some true)) else (some false))) = some r := H
                have A17 := Aside0.mk A170
                clear A170
                replace H := Option.bind_eq_some_iff.mp H
                obtain ⟨⟨t141, t142⟩, A180, H⟩ := H
                replace H : (if (t142 == t137) = true then (if t137 = true then (some (t141 == t136)) else (some true)) else (some false)) = some r := H
                have A18 := Aside0.mk A180
                clear A180
                by_cases c19 : (t142 == t137) = true
                · rw [if_pos c19] at H
                  have c19b0 : (t142 == t137) = true := c19
                  (try (have c19b1 : decide (t142 = t137) = true := by simpa using c19))
                  (try (have c19b2 : (t142 == t137) = true := by simpa using c19))
                  clear c19
                  by_cases c20 : t137 = true
                  · subst c20
                    have H1 : (some (t141 == t136)) = some r := by rw [if_pos rfl] at H; exact H
                    clear H
                    have H := H1
                    clear H1
                    obtain rfl := Option.some.inj H
                    obtain ⟨i021, hi021, _, hsz21, _⟩ := info_parts info5
                    obtain ⟨A21, hcut21, hA21, hC21⟩ := print_mid_of (P := Try.prog) (Value.int .u8) 0 27 5 .i64 .i64 Try.underlying27 hi021 hsz21 A0 c0 l0 a1 (wrap64 (a1 + 20)) (of_decide_eq_true (by first | (with_reducible assumption) | assumption)) (by first | omega | exact of_decide_eq_true (by first | (with_reducible assumption) | assumption)) (of_decide_eq_true (by first | (with_reducible assumption) | assumption)) HC0.out
                    have HR135 := Aside0.mk (Kd.C_of_reads (h1 := fun _ => rfl) (hA21 _ (Kd.reads_of_C HR0.out)))
                    have HC135 := Aside0.mk hC21
                    clear hA21 hC21 hi021 hsz21
                    go_wp2_with (first | ((with_reducible refine gate_callee (f := 14) rfl ?_); refine goesL_ (some 46) rfl rfl Try.func14 (by kernel_rfl) rfl #[.slice A21 ((l0.take ((wrap64 (a1 + 20)) : Int).toNat).drop (a1 : Int).toNat).length (c0 - a1.toNat)] rfl (by (try simp only [List.map_toArray, List.map_cons, List.map_nil]); first | done | (rw [show ((l0.take ((wrap64 (a1 + 20)) : Int).toNat).drop (a1 : Int).toNat).length = ((wrap64 (a1 + 20)).toNat - a1.toNat) from (by rw [List.length_drop, List.length_take]; have h_ : ((wrap64 (a1 + 20)) : Int) ≤ (l0.length : Int) := of_decide_eq_true (by first | (with_reducible assumption) | assumption); omega)] <;> rfl) | rfl | (simp only [List.length_drop, List.length_take]; rfl)) ?_; (with_reducible refine (spec_Value8.calls kj3 _ _ ((l0.take ((wrap64 (a1 + 20)) : Int).toNat).drop (a1 : Int).toNat) t136 true _ ?side1 ?side2 A16.out).mono ?_); (case side1 => repeat (first | exact (Kd.C_below HR135.out HB.out) | (with_reducible refine Kd.C_alloc ?_ _) | (with_reducible refine Kd.C_drewN ?_ _) | (with_reducible refine Kd.C_drew ?_))); (case side2 => exact HC135.out); rintro e w' ⟨rfl, ⟨nd, rfl⟩⟩; refine ⟨_, rfl, ?_⟩) | ((with_reducible refine gate_callee (f := 16) rfl ?_); refine goesL_ (some 51) rfl rfl Try.func16 (by kernel_rfl) rfl #[.slice A0 l0.length c0] rfl (by (try simp only [List.map_toArray, List.map_cons, List.map_nil]); first | done | rfl | (simp only [List.length_drop, List.length_take]; rfl)) ?_; (with_reducible refine (laws_terminated8.calls _ _ l0 t138 _ ?side1 ?side2 A17.out).mono ?_); (case side1 => repeat (first | exact (Kd.C_below HR0.out (by repeat (first | (with_reducible first | exact HB.out | apply below_alloc | apply pw_below_drewN | apply below_drew1) | exact HB.out))) | (with_reducible refine Kd.C_alloc ?_ _) | (with_reducible refine Kd.C_drewN ?_ _) | (with_reducible refine Kd.C_drew ?_))); (case side2 => exact HC0.out); rintro e w22 ⟨v139, rfl, ho0, hb⟩; refine ⟨_, rfl, ?_⟩; have n0_ := Aside0.mk (Kd.R_lower ho0 (below_size (by repeat (first | (with_reducible first | exact HB.out | apply below_alloc | apply pw_below_drewN | apply below_drew1) | exact HB.out)))); have n1_ := Aside0.mk (below_step (by repeat (first | (with_reducible first | exact HB.out | apply below_alloc | apply pw_below_drewN | apply below_drew1) | exact HB.out)) hb); clear HB; have HO140 := n0_; have HB := n1_; clear n0_ n1_; (try clear hb); (try clear hb2); (try clear hk); (try clear hi); (try clear ho0); obtain ⟨Ao23, co23, eo23⟩ := Kd.R_slice HO140.out; subst eo23) | ((with_reducible refine gate_callee (f := 15) rfl ?_); refine goesL_ (some 53) rfl rfl Try.func15 (by kernel_rfl) rfl #[.slice Ao23 t138.length co23, .int .i64 a1] rfl (by (try simp only [List.map_toArray, List.map_cons, List.map_nil]); first | done | rfl | (simp only [List.length_drop, List.length_take]; rfl)) ?_; (with_reducible refine (impl_TwentyDigits.calls kj3 _ _ t138 a1 t141 t142 _ ?side1 ?side2 A18.out).mono ?_); (case side1 => repeat (first | exact (Kd.R_reads' HO140.out).2.2 | (with_reducible refine Kd.C_alloc ?_ _) | (with_reducible refine Kd.C_drewN ?_ _) | (with_reducible refine Kd.C_drew ?_))); (case side2 => exact (Kd.R_reads' HO140.out).2.1); rintro e w' ⟨rfl, ⟨nd, rfl⟩⟩; refine ⟨_, rfl, ?_⟩))
                    go_ret
                    exact ⟨by first | rfl | (simp [errW_none, errW_some] <;> rfl) | (simp [*, errW_none, errW_some] <;> rfl), by repeat (first | (with_reducible first | exact HB.out | apply below_alloc | apply pw_below_drewN | apply below_drew1) | exact HB.out)⟩
                  · replace c20 := Bool.eq_false_iff.mpr c20
                    subst c20
                    have H1 : (some true) = some r := by rw [if_neg (show ¬ (false = true) by decide)] at H; exact H
                    clear H
                    have H := H1
                    clear H1
                    obtain rfl := Option.some.inj H
                    obtain ⟨i024, hi024, _, hsz24, _⟩ := info_parts info5
                    obtain ⟨A24, hcut24, hA24, hC24⟩ := print_mid_of (P := Try.prog) (Value.int .u8) 0 27 5 .i64 .i64 Try.underlying27 hi024 hsz24 A0 c0 l0 a1 (wrap64 (a1 + 20)) (of_decide_eq_true (by first | (with_reducible assumption) | assumption)) (by first | omega | exact of_decide_eq_true (by first | (with_reducible assumption) | assumption)) (of_decide_eq_true (by first | (with_reducible assumption) | assumption)) HC0.out
                    have HR135 := Aside0.mk (Kd.C_of_reads (h1 := fun _ => rfl) (hA24 _ (Kd.reads_of_C HR0.out)))
                    have HC135 := Aside0.mk hC24
                    clear hA24 hC24 hi024 hsz24
                    go_wp2_with (first | ((with_reducible refine gate_callee (f := 14) rfl ?_); refine goesL_ (some 46) rfl rfl Try.func14 (by kernel_rfl) rfl #[.slice A24 ((l0.take ((wrap64 (a1 + 20)) : Int).toNat).drop (a1 : Int).toNat).length (c0 - a1.toNat)] rfl (by (try simp only [List.map_toArray, List.map_cons, List.map_nil]); first | done | (rw [show ((l0.take ((wrap64 (a1 + 20)) : Int).toNat).drop (a1 : Int).toNat).length = ((wrap64 (a1 + 20)).toNat - a1.toNat) from (by rw [List.length_drop, List.length_take]; have h_ : ((wrap64 (a1 + 20)) : Int) ≤ (l0.length : Int) := of_decide_eq_true (by first | (with_reducible assumption) | assumption); omega)] <;> rfl) | rfl | (simp only [List.length_drop, List.length_take]; rfl)) ?_; (with_reducible refine (spec_Value8.calls kj3 _ _ ((l0.take ((wrap64 (a1 + 20)) : Int).toNat).drop (a1 : Int).toNat) t136 false _ ?side1 ?side2 A16.out).mono ?_); (case side1 => repeat (first | exact (Kd.C_below HR135.out HB.out) | (with_reducible refine Kd.C_alloc ?_ _) | (with_reducible refine Kd.C_drewN ?_ _) | (with_reducible refine Kd.C_drew ?_))); (case side2 => exact HC135.out); rintro e w' ⟨rfl, ⟨nd, rfl⟩⟩; refine ⟨_, rfl, ?_⟩) | ((with_reducible refine gate_callee (f := 16) rfl ?_); refine goesL_ (some 51) rfl rfl Try.func16 (by kernel_rfl) rfl #[.slice A0 l0.length c0] rfl (by (try simp only [List.map_toArray, List.map_cons, List.map_nil]); first | done | rfl | (simp only [List.length_drop, List.length_take]; rfl)) ?_; (with_reducible refine (laws_terminated8.calls _ _ l0 t138 _ ?side1 ?side2 A17.out).mono ?_); (case side1 => repeat (first | exact (Kd.C_below HR0.out (by repeat (first | (with_reducible first | exact HB.out | apply below_alloc | apply pw_below_drewN | apply below_drew1) | exact HB.out))) | (with_reducible refine Kd.C_alloc ?_ _) | (with_reducible refine Kd.C_drewN ?_ _) | (with_reducible refine Kd.C_drew ?_))); (case side2 => exact HC0.out); rintro e w25 ⟨v139, rfl, ho0, hb⟩; refine ⟨_, rfl, ?_⟩; have n0_ := Aside0.mk (Kd.R_lower ho0 (below_size (by repeat (first | (with_reducible first | exact HB.out | apply below_alloc | apply pw_below_drewN | apply below_drew1) | exact HB.out)))); have n1_ := Aside0.mk (below_step (by repeat (first | (with_reducible first | exact HB.out | apply below_alloc | apply pw_below_drewN | apply below_drew1) | exact HB.out)) hb); clear HB; have HO140 := n0_; have HB := n1_; clear n0_ n1_; (try clear hb); (try clear hb2); (try clear hk); (try clear hi); (try clear ho0); obtain ⟨Ao26, co26, eo26⟩ := Kd.R_slice HO140.out; subst eo26) | ((with_reducible refine gate_callee (f := 15) rfl ?_); refine goesL_ (some 53) rfl rfl Try.func15 (by kernel_rfl) rfl #[.slice Ao26 t138.length co26, .int .i64 a1] rfl (by (try simp only [List.map_toArray, List.map_cons, List.map_nil]); first | done | rfl | (simp only [List.length_drop, List.length_take]; rfl)) ?_; (with_reducible refine (impl_TwentyDigits.calls kj3 _ _ t138 a1 t141 t142 _ ?side1 ?side2 A18.out).mono ?_); (case side1 => repeat (first | exact (Kd.R_reads' HO140.out).2.2 | (with_reducible refine Kd.C_alloc ?_ _) | (with_reducible refine Kd.C_drewN ?_ _) | (with_reducible refine Kd.C_drew ?_))); (case side2 => exact (Kd.R_reads' HO140.out).2.1); rintro e w' ⟨rfl, ⟨nd, rfl⟩⟩; refine ⟨_, rfl, ?_⟩))
                    go_ret
                    exact ⟨by first | rfl | (simp [errW_none, errW_some] <;> rfl) | (simp [*, errW_none, errW_some] <;> rfl), by repeat (first | (with_reducible first | exact HB.out | apply below_alloc | apply pw_below_drewN | apply below_drew1) | exact HB.out)⟩
                · rw [if_neg c19] at H
                  have c19b0 : (t142 == t137) = false := by simpa using c19
                  (try (have c19b1 : decide (t142 = t137) = false := by simpa using c19))
                  (try (have c19b2 : (t142 == t137) = false := by simpa using c19))
                  (try (have c19b3 : ¬ (t142 = t137) := by simpa using c19))
                  clear c19
                  obtain rfl := Option.some.inj H
                  obtain ⟨i027, hi027, _, hsz27, _⟩ := info_parts info5
                  obtain ⟨A27, hcut27, hA27, hC27⟩ := print_mid_of (P := Try.prog) (Value.int .u8) 0 27 5 .i64 .i64 Try.underlying27 hi027 hsz27 A0 c0 l0 a1 (wrap64 (a1 + 20)) (of_decide_eq_true (by first | (with_reducible assumption) | assumption)) (by first | omega | exact of_decide_eq_true (by first | (with_reducible assumption) | assumption)) (of_decide_eq_true (by first | (with_reducible assumption) | assumption)) HC0.out
                  have HR135 := Aside0.mk (Kd.C_of_reads (h1 := fun _ => rfl) (hA27 _ (Kd.reads_of_C HR0.out)))
                  have HC135 := Aside0.mk hC27
                  clear hA27 hC27 hi027 hsz27
                  go_wp2_with (first | ((with_reducible refine gate_callee (f := 14) rfl ?_); refine goesL_ (some 46) rfl rfl Try.func14 (by kernel_rfl) rfl #[.slice A27 ((l0.take ((wrap64 (a1 + 20)) : Int).toNat).drop (a1 : Int).toNat).length (c0 - a1.toNat)] rfl (by (try simp only [List.map_toArray, List.map_cons, List.map_nil]); first | done | (rw [show ((l0.take ((wrap64 (a1 + 20)) : Int).toNat).drop (a1 : Int).toNat).length = ((wrap64 (a1 + 20)).toNat - a1.toNat) from (by rw [List.length_drop, List.length_take]; have h_ : ((wrap64 (a1 + 20)) : Int) ≤ (l0.length : Int) := of_decide_eq_true (by first | (with_reducible assumption) | assumption); omega)] <;> rfl) | rfl | (simp only [List.length_drop, List.length_take]; rfl)) ?_; (with_reducible refine (spec_Value8.calls kj3 _ _ ((l0.take ((wrap64 (a1 + 20)) : Int).toNat).drop (a1 : Int).toNat) t136 t137 _ ?side1 ?side2 A16.out).mono ?_); (case side1 => repeat (first | exact (Kd.C_below HR135.out HB.out) | (with_reducible refine Kd.C_alloc ?_ _) | (with_reducible refine Kd.C_drewN ?_ _) | (with_reducible refine Kd.C_drew ?_))); (case side2 => exact HC135.out); rintro e w' ⟨rfl, ⟨nd, rfl⟩⟩; refine ⟨_, rfl, ?_⟩) | ((with_reducible refine gate_callee (f := 16) rfl ?_); refine goesL_ (some 51) rfl rfl Try.func16 (by kernel_rfl) rfl #[.slice A0 l0.length c0] rfl (by (try simp only [List.map_toArray, List.map_cons, List.map_nil]); first | done | rfl | (simp only [List.length_drop, List.length_take]; rfl)) ?_; (with_reducible refine (laws_terminated8.calls _ _ l0 t138 _ ?side1 ?side2 A17.out).mono ?_); (case side1 => repeat (first | exact (Kd.C_below HR0.out (by repeat (first | (with_reducible first | exact HB.out | apply below_alloc | apply pw_below_drewN | apply below_drew1) | exact HB.out))) | (with_reducible refine Kd.C_alloc ?_ _) | (with_reducible refine Kd.C_drewN ?_ _) | (with_reducible refine Kd.C_drew ?_))); (case side2 => exact HC0.out); rintro e w28 ⟨v139, rfl, ho0, hb⟩; refine ⟨_, rfl, ?_⟩; have n0_ := Aside0.mk (Kd.R_lower ho0 (below_size (by repeat (first | (with_reducible first | exact HB.out | apply below_alloc | apply pw_below_drewN | apply below_drew1) | exact HB.out)))); have n1_ := Aside0.mk (below_step (by repeat (first | (with_reducible first | exact HB.out | apply below_alloc | apply pw_below_drewN | apply below_drew1) | exact HB.out)) hb); clear HB; have HO140 := n0_; have HB := n1_; clear n0_ n1_; (try clear hb); (try clear hb2); (try clear hk); (try clear hi); (try clear ho0); obtain ⟨Ao29, co29, eo29⟩ := Kd.R_slice HO140.out; subst eo29) | ((with_reducible refine gate_callee (f := 15) rfl ?_); refine goesL_ (some 53) rfl rfl Try.func15 (by kernel_rfl) rfl #[.slice Ao29 t138.length co29, .int .i64 a1] rfl (by (try simp only [List.map_toArray, List.map_cons, List.map_nil]); first | done | rfl | (simp only [List.length_drop, List.length_take]; rfl)) ?_; (with_reducible refine (impl_TwentyDigits.calls kj3 _ _ t138 a1 t141 t142 _ ?side1 ?side2 A18.out).mono ?_); (case side1 => repeat (first | exact (Kd.R_reads' HO140.out).2.2 | (with_reducible refine Kd.C_alloc ?_ _) | (with_reducible refine Kd.C_drewN ?_ _) | (with_reducible refine Kd.C_drew ?_))); (case side2 => exact (Kd.R_reads' HO140.out).2.1); rintro e w' ⟨rfl, ⟨nd, rfl⟩⟩; refine ⟨_, rfl, ?_⟩))
                  go_ret
                  exact ⟨by first | rfl | (simp [errW_none, errW_some] <;> rfl) | (simp [*, errW_none, errW_some] <;> rfl), by repeat (first | (with_reducible first | exact HB.out | apply below_alloc | apply pw_below_drewN | apply below_drew1) | exact HB.out)⟩
              · rw [if_neg c15] at H
                exact absurd H (by simp)
            · rw [if_neg c14] at H
              exact absurd H (by simp)
          · rw [if_neg c13] at H
            exact absurd H (by simp)

/-- THE ONE PURE STATEMENT of laws_FnTwentyDigits: yours. -/
def laws_FnTwentyDigits.Pure : Prop := ∀ (l0 : List Int) (a1 : Int), l0.length ≤ maxLen → l0.length * 1 ≤ 140737488351232 → (∀ x ∈ l0, (Lit.int .u8 x).wf = true) → (Lit.int .i64 a1).wf = true → ∃ k, laws_FnTwentyDigits.f k l0 a1 = some true
theorem laws_FnTwentyDigits.walk (P : laws_FnTwentyDigits.Pure) (a0 : Option Addr) (len0 cap0 : Nat) (z0 : List Int) (a1 : Int) (w : World) (w0 : (a0 = none ∧ len0 = 0 ∧ cap0 = 0 ∧ z0 = []) ∨ ∃ x, a0 = some x ∧ len0 ≤ cap0 ∧ cap0 ≤ maxLen ∧ z0.length = cap0 ∧ (∀ i, i < z0.length → w.cell? (x.add i) = some (.int .u8 (z0.getD i 0))) ∧ ∀ n ∈ z0, (Lit.int .u8 n).wf = true) (y0 : len0 * 1 ≤ 140737488351232) (w1 : (Lit.int .i64 a1).wf = true) :
    Calls Try.prog 6 #[.slice a0 len0 cap0, .int .i64 a1] w fun e w' => e = .returned (.bool true) ∧ Below w.heap.size w w' := by
  obtain ⟨l0, rfl, hr0, hm0, hw0, hc0⟩ := ReadsInt.ofRowC w0
  obtain ⟨k, h⟩ := P l0 a1 hm0 y0 hw0 w1
  refine (laws_FnTwentyDigits.calls k _ _ l0 a1 true w (Kd.C_of_reads (d := (0 : Int)) (h1 := fun _ => rfl) hr0) hc0 h).mono ?_
  rintro e w' ⟨rfl, hd⟩
  exact ⟨rfl, hd⟩

end Go.Proofs.Ytoigokgechcaiaa.QDg
