-- PRINTED BY print.sh 35421559b90ae4d0a3588c463048766b98c2df88dd9212a6774a882060cdf62d: not written by this session
import Derived.Test.YtoigokgechcaiaaPFnNonDigitsx0
namespace Go.Proofs.Ytoigokgechcaiaa.PFnNonDigits
open Go.RowKit Go.Proofs.YtoigokgechcaiaaW.PrintWords Go.Proofs.YtoigokgechcaiaaW.PrintLast Go.Proofs.YtoigokgechcaiaaW.PrintMore
attribute [local go_sem] max2_int min2_int max_two min_two max_three min_three max_four min_four   -- for this text's walks alone
set_option linter.unusedVariables false
set_option linter.unusedSimpArgs false

/-! ### spec_digit: function 22 -/
def spec_digit.f (a0 : Int) : Option (Bool) := if a0 ≥ 48 then (some (decide (a0 ≤ 57))) else (some false)
set_option maxHeartbeats 8000000 in
set_option maxRecDepth 100000 in
theorem spec_digit.calls (a0 : Int) (r : Bool) (w : World) (h : spec_digit.f a0 = some r) :
    Calls Try.prog 22 #[.int .u8 a0] w fun e w' => e = .returned (.bool r) ∧ Drawn0 w w' := by
  have H : (if a0 ≥ 48 then (some (decide (a0 ≤ 57))) else (some false)) = some r := h
  clear h
  by_cases c2 : a0 ≥ 48
  · rw [if_pos c2] at H
    have c2b0 : decide (48 ≤ a0) = true := decide_eq_true c2
    clear c2
    obtain rfl := Option.some.inj H
    go_enter Try.func22, Try.ntmps22
    go_wp2
    go_ret
    exact ⟨by first | rfl | (simp; done) | (simp [*]; done), by repeat (first | exact Drawn0.refl _ | apply Drawn0.step)⟩
  · rw [if_neg c2] at H
    have c2b0 : decide (48 ≤ a0) = false := decide_eq_false c2
    clear c2
    obtain rfl := Option.some.inj H
    go_enter Try.func22, Try.ntmps22
    go_wp2
    go_ret
    exact ⟨by first | rfl | (simp; done) | (simp [*]; done), by repeat (first | exact Drawn0.refl _ | apply Drawn0.step)⟩

/-! ### spec_IsDigit8: function 11 -/
def spec_IsDigit8.f (a0 : Int) : Option (Bool) := (spec_digit.f a0).bind fun t101 => (some t101)
set_option maxHeartbeats 8000000 in
set_option maxRecDepth 100000 in
theorem spec_IsDigit8.calls (a0 : Int) (r : Bool) (w : World) (h : spec_IsDigit8.f a0 = some r) :
    Calls Try.prog 11 #[.int .u8 a0] w fun e w' => e = .returned (.bool r) ∧ Drawn0 w w' := by
  have H : ((spec_digit.f a0).bind fun t101 => (some t101)) = some r := h
  clear h
  replace H := Option.bind_eq_some_iff.mp H
  obtain ⟨t101, A20, H⟩ := H
  replace H : (some t101) = some r := H
  have A2 := Aside0.mk A20
  clear A20
  obtain rfl := Option.some.inj H
  go_enter Try.func11, Try.ntmps11
  go_wp2_with (first | ((with_reducible refine gate_callee (f := 22) rfl ?_); refine goesL_ (some 4) rfl rfl Try.func22 (by kernel_rfl) rfl #[.int .u8 a0] rfl (by (try simp only [List.map_toArray, List.map_cons, List.map_nil]); first | done | rfl | (simp only [List.length_drop, List.length_take]; rfl)) ?_; (with_reducible refine (spec_digit.calls a0 t101 _ A2.out).mono ?_); rintro e w' ⟨rfl, ⟨nd, rfl⟩⟩; refine ⟨_, rfl, ?_⟩))
  go_ret
  exact ⟨by first | rfl | (simp; done) | (simp [*]; done), by repeat (first | exact Drawn0.refl _ | apply Drawn0.step)⟩

/-! ### gojsonnum_NonDigitTops: function 23 -/
def gojsonnum_NonDigitTops.f (a0 : Int) : Option (Int) := some (Go.bits .or .u64 (Go.bits .and .u64 (Go.bits .or .u64 (IntKind.u64.wrap ((Go.bits .andNot .u64 a0 9259542123273814144) + 5063812098665367110)) a0) 9259542123273814144) (Go.bits .andNot .u64 9259542123273814144 (IntKind.u64.wrap ((Go.bits .or .u64 a0 9259542123273814144) - 3472328296227680304))))
set_option maxHeartbeats 8000000 in
set_option maxRecDepth 100000 in
theorem gojsonnum_NonDigitTops.calls (a0 : Int) (r : Int) (w : World) (h : gojsonnum_NonDigitTops.f a0 = some r) :
    Calls Try.prog 23 #[.int .u64 a0] w fun e w' => e = .returned (.int .u64 r) ∧ Drawn0 w w' := by
  have H : (some (Go.bits .or .u64 (Go.bits .and .u64 (Go.bits .or .u64 (IntKind.u64.wrap ((Go.bits .andNot .u64 a0 9259542123273814144) + 5063812098665367110)) a0) 9259542123273814144) (Go.bits .andNot .u64 9259542123273814144 (IntKind.u64.wrap ((Go.bits .or .u64 a0 9259542123273814144) - 3472328296227680304))))) = some r := h
  clear h
  obtain rfl := Option.some.inj H
  go_enter Try.func23, Try.ntmps23
  go_wp2
  go_ret
  exact ⟨by first | rfl | (simp; done) | (simp [*]; done), by repeat (first | exact Drawn0.refl _ | apply Drawn0.step)⟩

/-! ### impl_NonDigits: function 12 -/
def impl_NonDigits.f (a0 : Int) : Option (Int) := (gojsonnum_NonDigitTops.f a0).bind fun t102 => (some t102)
set_option maxHeartbeats 8000000 in
set_option maxRecDepth 100000 in
theorem impl_NonDigits.calls (a0 : Int) (r : Int) (w : World) (h : impl_NonDigits.f a0 = some r) :
    Calls Try.prog 12 #[.int .u64 a0] w fun e w' => e = .returned (.int .u64 r) ∧ Drawn0 w w' := by
  have H : ((gojsonnum_NonDigitTops.f a0).bind fun t102 => (some t102)) = some r := h
  clear h
  replace H := Option.bind_eq_some_iff.mp H
  obtain ⟨t102, A20, H⟩ := H
  replace H : (some t102) = some r := H
  have A2 := Aside0.mk A20
  clear A20
  obtain rfl := Option.some.inj H
  go_enter Try.func12, Try.ntmps12
  go_wp2_with (first | ((with_reducible refine gate_callee (f := 23) rfl ?_); refine goesL_ (some 4) rfl rfl Try.func23 (by kernel_rfl) rfl #[.int .u64 a0] rfl (by (try simp only [List.map_toArray, List.map_cons, List.map_nil]); first | done | rfl | (simp only [List.length_drop, List.length_take]; rfl)) ?_; (with_reducible refine (gojsonnum_NonDigitTops.calls a0 t102 _ A2.out).mono ?_); rintro e w' ⟨rfl, ⟨nd, rfl⟩⟩; refine ⟨_, rfl, ?_⟩))
  go_ret
  exact ⟨by first | rfl | (simp; done) | (simp [*]; done), by repeat (first | exact Drawn0.refl _ | apply Drawn0.step)⟩

/-! ### laws_FnNonDigits: function 5 -/
def laws_FnNonDigits.l0 : Nat → Int → Int → Int → Option (Bool)
  | 0, _, _, _ => none
  | k + 1, x0, x3, x5 => if x5 < 8 then (if 0 ≤ (wrap64 (8 * x5)) then ((spec_IsDigit8.f ((shr .u64 x0 (wrap64 (8 * x5))) % 256)).bind fun t103 => (if t103 = true then (laws_FnNonDigits.l0 k x0 x3 (wrap64 (x5 + 1))) else (laws_FnNonDigits.l0 k x0 (Go.bits .or .u64 x3 (shl .u64 128 (wrap64 (8 * x5)))) (wrap64 (x5 + 1))))) else (none)) else ((impl_NonDigits.f x0).bind fun t104 => (some (t104 == x3)))
def laws_FnNonDigits.f (k : Nat) (a0 : Int) : Option (Bool) := laws_FnNonDigits.l0 k a0 0 0
theorem laws_FnNonDigits.mono_l : ∀ k, (∀ y0 y1 y2, LeO (laws_FnNonDigits.l0 k y0 y1 y2) (laws_FnNonDigits.l0 (k + 1) y0 y1 y2))
  | 0 => fun _ _ _ r h => by simp [laws_FnNonDigits.l0] at h
  | k + 1 => by
    have ih0 := laws_FnNonDigits.mono_l k
    · intro y0 y1 y2
      unfold laws_FnNonDigits.l0
      repeat' first
      | (with_reducible exact ih0 _ _ _)
      | (with_reducible exact LeO.refl _)
      | (with_reducible exact LeO.none _)
      | (with_reducible refine LeO.ite ?_ ?_)
      | (with_reducible refine LeO.bind ?_ (fun _ => ?_))
      | exact ih0 _ _ _
      | exact LeO.none _
      | refine LeO.ite ?_ ?_
      | refine LeO.bind ?_ (fun _ => ?_)
theorem laws_FnNonDigits.mono : ∀ a0 k, LeO (laws_FnNonDigits.f k a0) (laws_FnNonDigits.f (k + 1) a0) := by
  intro a0 k
  have ih0 := laws_FnNonDigits.mono_l k
  unfold laws_FnNonDigits.f
  repeat' first
      | (with_reducible exact ih0 _ _ _)
      | (with_reducible exact LeO.refl _)
      | (with_reducible exact LeO.none _)
      | (with_reducible refine LeO.ite ?_ ?_)
      | (with_reducible refine LeO.bind ?_ (fun _ => ?_))
      | exact ih0 _ _ _
      | exact LeO.none _
      | refine LeO.ite ?_ ?_
      | refine LeO.bind ?_ (fun _ => ?_)
set_option maxHeartbeats 8000000 in
set_option maxRecDepth 100000 in
theorem laws_FnNonDigits.calls (k : Nat) (a0 : Int) (r : Bool) (w : World) (h : laws_FnNonDigits.f k a0 = some r) :
    Calls Try.prog 5 #[.int .u64 a0] w fun e w' => e = .returned (.bool r) ∧ Drawn0 w w' := by
  have H : (laws_FnNonDigits.l0 k a0 0 0) = some r := h
  clear h
  have H' := Aside0.mk H
  clear H
  go_enter Try.func5, Try.ntmps5
  go_wp2
  go_loopg [3, 5] k (fun kq v3 v5 w' => ∃ (x3_1 : Int) (x5_1 : Int), v3 = .int .u64 x3_1 ∧ v5 = .int .i64 x5_1 ∧ Aside0 (laws_FnNonDigits.l0 kq a0 x3_1 x5_1 = some r) ∧ Aside0 (kq ≤ k) ∧ Drawn0 w w')
  case atStart => exact ⟨(0), (0), (by first | rfl | (simp; done) | (simp [*]; done)), (by first | rfl | (simp; done) | (simp [*]; done)), H', ⟨Nat.le_refl _⟩, by repeat (first | exact Drawn0.refl _ | apply Drawn0.step)⟩
  case round =>
    clear H'
    obtain ⟨x3_1, x5_1, rfl, rfl, HA, HK1, ⟨m1, rfl⟩⟩ := hrel
    cases gk with
    | zero => exact absurd HA.out (by simp [laws_FnNonDigits.l0])
    | succ k1 =>
      have H := HA.out
      clear HA
      simp only [laws_FnNonDigits.l0] at H
      by_cases c2 : x5_1 < 8
      · rw [if_pos c2] at H
        have c2b0 : decide (x5_1 < 8) = true := decide_eq_true c2
        clear c2
        obtain ⟨ji3, hji3⟩ : ∃ j_ : Int, (wrap64 (8 * x5_1)) = j_ := ⟨_, rfl⟩
        replace H : (if 0 ≤ (ji3) then ((spec_IsDigit8.f ((shr .u64 a0 (ji3)) % 256)).bind fun t103 => (if t103 = true then (laws_FnNonDigits.l0 k1 a0 x3_1 (wrap64 (x5_1 + 1))) else (laws_FnNonDigits.l0 k1 a0 (Go.bits .or .u64 x3_1 (shl .u64 128 (ji3))) (wrap64 (x5_1 + 1))))) else (none)) = some r := by first | (rw [hji3] at H; exact H) | (simp only [hji3] at H ⊢; exact H)
        have hji3w : (IntKind.i64.wrap (8 * x5_1)) = ji3 := (i64_w _).trans hji3
        by_cases c4 : 0 ≤ (ji3)
        · rw [if_pos c4] at H
          have c4b0 := eq_true c4
          have c4b1 : decide (0 ≤ (ji3)) = true := decide_eq_true c4
          clear c4
          obtain ⟨ji5, hji5⟩ : ∃ j_ : Int, (shr .u64 a0 (ji3)) = j_ := ⟨_, rfl⟩
          replace H : ((spec_IsDigit8.f ((ji5) % 256)).bind fun t103 => (if t103 = true then (laws_FnNonDigits.l0 k1 a0 x3_1 (wrap64 (x5_1 + 1))) else (laws_FnNonDigits.l0 k1 a0 (Go.bits .or .u64 x3_1 (shl .u64 128 (ji3))) (wrap64 (x5_1 + 1))))) = some r := by first | (rw [hji5] at H; exact H) | (simp only [hji5] at H ⊢; exact H)
          have hji5_ : (a0 / 2 ^ min (ji3).toNat 64) = ji5 := hji5
          have hji5z : (ji3) ≤ 64 → (a0 / 2 ^ (ji3).toNat) = ji5 := shr_small hji5
          replace H := Option.bind_eq_some_iff.mp H
          obtain ⟨t103, A60, H⟩ := H
          replace H : (if t103 = true then (laws_FnNonDigits.l0 k1 a0 x3_1 (wrap64 (x5_1 + 1))) else (laws_FnNonDigits.l0 k1 a0 (Go.bits .or .u64 x3_1 (shl .u64 128 (ji3))) (wrap64 (x5_1 + 1)))) = some r := H
          have A6 := Aside0.mk A60
          clear A60
          by_cases c7 : t103 = true
          · subst c7
            have H1 : (laws_FnNonDigits.l0 k1 a0 x3_1 (wrap64 (x5_1 + 1))) = some r := by rw [if_pos rfl] at H; exact H
            clear H
            have H := H1
            clear H1
            have H' := Aside0.mk H
            clear H
            go_wp2_with (first | ((with_reducible refine gate_callee (f := 11) rfl ?_); refine goesL_ (some 13) rfl rfl Try.func11 (by kernel_rfl) rfl #[.int .u8 ((ji5) % 256)] rfl (by (try simp only [List.map_toArray, List.map_cons, List.map_nil]); first | done | (simp only [hji5]; rfl) | rfl | (simp only [List.length_drop, List.length_take]; rfl)) ?_; (with_reducible refine (spec_IsDigit8.calls ((ji5) % 256) true _ A6.out).mono ?_); rintro e w' ⟨rfl, ⟨nd, rfl⟩⟩; refine ⟨_, rfl, ?_⟩))
            go_roundg k1
            case measure => have := HK1.out; omega
            case rel => exact ⟨(x3_1), (wrap64 (x5_1 + 1)), (by first | rfl | (simp; done) | (simp [*]; done)), (by first | rfl | (simp; done) | (simp [*]; done)), H', ⟨by have := HK1.out; omega⟩, by repeat (first | exact Drawn0.refl _ | apply Drawn0.step)⟩
          · replace c7 := Bool.eq_false_iff.mpr c7
            subst c7
            have H1 : (laws_FnNonDigits.l0 k1 a0 (Go.bits .or .u64 x3_1 (shl .u64 128 (ji3))) (wrap64 (x5_1 + 1))) = some r := by rw [if_neg (show ¬ (false = true) by decide)] at H; exact H
            clear H
            have H := H1
            clear H1
            have c8b0 := eq_true (of_decide_eq_true (by first | (with_reducible assumption) | assumption) : 0 ≤ (ji3))
            obtain ⟨ji9, hji9⟩ : ∃ j_ : Int, (shl .u64 128 (ji3)) = j_ := ⟨_, rfl⟩
            replace H : (laws_FnNonDigits.l0 k1 a0 (Go.bits .or .u64 x3_1 (ji9)) (wrap64 (x5_1 + 1))) = some r := by first | (rw [hji9] at H; exact H) | (simp only [hji9] at H ⊢; exact H)
            (try rw [hji9] at A6)
            have hji9_ : (IntKind.u64.wrap (128 * 2 ^ min (ji3).toNat 64)) = ji9 := hji9
            have hji9z : (ji3) ≤ 64 → (IntKind.u64.wrap (128 * 2 ^ (ji3).toNat)) = ji9 := shl_small hji9
            have H' := Aside0.mk H
            clear H
            go_wp2_with (first | ((with_reducible refine gate_callee (f := 11) rfl ?_); refine goesL_ (some 13) rfl rfl Try.func11 (by kernel_rfl) rfl #[.int .u8 ((ji5) % 256)] rfl (by (try simp only [List.map_toArray, List.map_cons, List.map_nil]); first | done | (simp only [hji5]; rfl) | rfl | (simp only [List.length_drop, List.length_take]; rfl)) ?_; (with_reducible refine (spec_IsDigit8.calls ((ji5) % 256) false _ A6.out).mono ?_); rintro e w' ⟨rfl, ⟨nd, rfl⟩⟩; refine ⟨_, rfl, ?_⟩))
            go_roundg k1
            case measure => have := HK1.out; omega
            case rel => exact ⟨(Go.bits .or .u64 x3_1 (ji9)), (wrap64 (x5_1 + 1)), (by first | rfl | (simp; done) | (simp only [← hji9] <;> (first | rfl | simp)) | (simp [*]; done)), (by first | rfl | (simp; done) | (simp [*]; done)), H', ⟨by have := HK1.out; omega⟩, by repeat (first | exact Drawn0.refl _ | apply Drawn0.step)⟩
        · rw [if_neg c4] at H
          exact absurd H (by simp)
      · rw [if_neg c2] at H
        have c2b0 : decide (x5_1 < 8) = false := decide_eq_false c2
        clear c2
        replace H := Option.bind_eq_some_iff.mp H
        obtain ⟨t104, A100, H⟩ := H
        replace H : (some (t104 == x3_1)) = some r := H
        have A10 := Aside0.mk A100
        clear A100
        obtain rfl := Option.some.inj H
        go_wp2_with (first | ((with_reducible refine gate_callee (f := 12) rfl ?_); refine goesL_ (some 22) rfl rfl Try.func12 (by kernel_rfl) rfl #[.int .u64 a0] rfl (by (try simp only [List.map_toArray, List.map_cons, List.map_nil]); first | done | rfl | (simp only [List.length_drop, List.length_take]; rfl)) ?_; (with_reducible refine (impl_NonDigits.calls a0 t104 _ A10.out).mono ?_); rintro e w' ⟨rfl, ⟨nd, rfl⟩⟩; refine ⟨_, rfl, ?_⟩))
        go_ret
        exact ⟨by first | rfl | (simp; done) | (simp [*]; done), by repeat (first | exact Drawn0.refl _ | apply Drawn0.step)⟩

/-- THE ONE PURE STATEMENT of laws_FnNonDigits: yours. -/
def laws_FnNonDigits.Pure : Prop := ∀ (a0 : Int), (Lit.int .u64 a0).wf = true → ∃ k, laws_FnNonDigits.f k a0 = some true
theorem laws_FnNonDigits.walk (P : laws_FnNonDigits.Pure) (a0 : Int) (w : World) (w0 : (Lit.int .u64 a0).wf = true) :
    Calls Try.prog 5 #[.int .u64 a0] w fun e w' => e = .returned (.bool true) ∧ Below w.heap.size w w' := by
  obtain ⟨k, h⟩ := P a0 w0
  refine (laws_FnNonDigits.calls k a0 true w h).mono ?_
  rintro e w' ⟨rfl, hd⟩
  exact ⟨rfl, hd.below⟩

end Go.Proofs.Ytoigokgechcaiaa.PFnNonDigits
