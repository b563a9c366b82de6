-- Written by a program of this session (wip/tools/myprint.py) out of Lean's own print of the translation.
import Derived.Test.YtfkagnpdapkaaaaDoorQF0
namespace Go.Proofs.YtfkagnpdapkaaaaDoor.QF
open Go.RowKit Go.Proofs.YtfkagnpdapkaaaaDoorW.PrintWords Go.Proofs.YtfkagnpdapkaaaaDoorW.PrintLast Go.Proofs.YtfkagnpdapkaaaaDoorW.PrintMore
attribute [local go_sem] max2_int min2_int max_two min_two max_three min_three max_four min_four   -- for this text's walks alone
open Go.Proofs.YtfkagnpdapkaaaaDoor.Tab
set_option linter.unusedVariables false
set_option linter.unusedSimpArgs false

/-! ### gojson_isHexDigit: function 156 -/
def gojson_isHexDigit.f (a0 : Int) : Option (Bool) := if ((a0 - 48) % 256) ≤ 9 then (some true) else (some (decide ((((Go.bits .or .u8 a0 32) - 97) % 256) ≤ 5)))
set_option maxHeartbeats 8000000 in
set_option maxRecDepth 100000 in
theorem gojson_isHexDigit.calls (a0 : Int) (r : Bool) (w : World) (h : gojson_isHexDigit.f a0 = some r) :
    Calls Tryd.prog 156 #[.int .u8 a0] w fun e w' => e = .returned (.bool r) ∧ Drawn0 w w' := by
  have H : (if ((a0 - 48) % 256) ≤ 9 then (some true) else (some (decide ((((Go.bits .or .u8 a0 32) - 97) % 256) ≤ 5)))) = some r := h
  clear h
  by_cases c2 : ((a0 - 48) % 256) ≤ 9
  · rw [if_pos c2] at H
    have c2b0 : decide (((a0 - 48) % 256) ≤ 9) = true := decide_eq_true c2
    clear c2
    obtain rfl := Option.some.inj H
    go_enter Tryd.func156, Tryd.ntmps156
    go_wp2
    go_ret
    exact ⟨by first | rfl | (simp; done) | (simp [*]; done) | (simp [wrap64]; done), by repeat (first | exact Drawn0.refl _ | apply Drawn0.step)⟩
  · rw [if_neg c2] at H
    have c2b0 : decide (((a0 - 48) % 256) ≤ 9) = false := decide_eq_false c2
    clear c2
    obtain rfl := Option.some.inj H
    go_enter Tryd.func156, Tryd.ntmps156
    go_wp2
    go_ret
    exact ⟨by first | rfl | (simp; done) | (simp [*]; done) | (simp [wrap64]; done), by repeat (first | exact Drawn0.refl _ | apply Drawn0.step)⟩

/-- THE ONE PURE STATEMENT of gojson_isHexDigit: yours. -/
def gojson_isHexDigit.Pure : Prop := ∀ (a0 : Int), (Lit.int .u8 a0).wf = true → gojson_isHexDigit.f a0 = some true
theorem gojson_isHexDigit.walk (P : gojson_isHexDigit.Pure) (a0 : Int) (w : World) (w0 : (Lit.int .u8 a0).wf = true) :
    Calls Tryd.prog 156 #[.int .u8 a0] w fun e w' => e = .returned (.bool true) ∧ Below w.heap.size w w' := by
  have h := P a0 w0
  refine (gojson_isHexDigit.calls a0 true w h).mono ?_
  rintro e w' ⟨rfl, hd⟩
  exact ⟨rfl, hd.below⟩

/-! ### gojson_isWhiteSpace: function 121 -/
def gojson_isWhiteSpace.f (a0 : Int) : Option (Bool) := if a0 = 32 then (some true) else (if a0 = 10 then (some true) else (if a0 = 9 then (some true) else (some (a0 == 13))))
set_option maxHeartbeats 8000000 in
set_option maxRecDepth 100000 in
theorem gojson_isWhiteSpace.calls (a0 : Int) (r : Bool) (w : World) (h : gojson_isWhiteSpace.f a0 = some r) :
    Calls Tryd.prog 121 #[.int .u8 a0] w fun e w' => e = .returned (.bool r) ∧ Drawn0 w w' := by
  have H : (if a0 = 32 then (some true) else (if a0 = 10 then (some true) else (if a0 = 9 then (some true) else (some (a0 == 13))))) = some r := h
  clear h
  by_cases c2 : a0 = 32
  · rw [if_pos c2] at H
    have c2b0 : (a0 == 32) = true := beq_iff_eq.mpr c2
    have c2b1 : (a0 != 32) = false := bne_eq_false_iff_eq.mpr c2
    clear c2
    obtain rfl := Option.some.inj H
    go_enter Tryd.func121, Tryd.ntmps121
    go_wp2
    go_ret
    exact ⟨by first | rfl | (simp; done) | (simp [*]; done) | (simp [wrap64]; done), by repeat (first | exact Drawn0.refl _ | apply Drawn0.step)⟩
  · rw [if_neg c2] at H
    have c2b0 : (a0 == 32) = false := beq_eq_false_iff_ne.mpr c2
    have c2b1 : (a0 != 32) = true := bne_iff_ne.mpr c2
    by_cases c3 : a0 = 10
    · rw [if_pos c3] at H
      have c3b0 : (a0 == 10) = true := beq_iff_eq.mpr c3
      have c3b1 : (a0 != 10) = false := bne_eq_false_iff_eq.mpr c3
      clear c3
      obtain rfl := Option.some.inj H
      go_enter Tryd.func121, Tryd.ntmps121
      go_wp2
      go_ret
      exact ⟨by first | rfl | (simp; done) | (simp [*]; done) | (simp [wrap64]; done), by repeat (first | exact Drawn0.refl _ | apply Drawn0.step)⟩
    · rw [if_neg c3] at H
      have c3b0 : (a0 == 10) = false := beq_eq_false_iff_ne.mpr c3
      have c3b1 : (a0 != 10) = true := bne_iff_ne.mpr c3
      by_cases c4 : a0 = 9
      · rw [if_pos c4] at H
        have c4b0 : (a0 == 9) = true := beq_iff_eq.mpr c4
        have c4b1 : (a0 != 9) = false := bne_eq_false_iff_eq.mpr c4
        clear c4
        obtain rfl := Option.some.inj H
        go_enter Tryd.func121, Tryd.ntmps121
        go_wp2
        go_ret
        exact ⟨by first | rfl | (simp; done) | (simp [*]; done) | (simp [wrap64]; done), by repeat (first | exact Drawn0.refl _ | apply Drawn0.step)⟩
      · rw [if_neg c4] at H
        have c4b0 : (a0 == 9) = false := beq_eq_false_iff_ne.mpr c4
        have c4b1 : (a0 != 9) = true := bne_iff_ne.mpr c4
        obtain rfl := Option.some.inj H
        go_enter Tryd.func121, Tryd.ntmps121
        go_wp2
        go_ret
        exact ⟨by first | rfl | (simp; done) | (simp [*]; done) | (simp [wrap64]; done), by repeat (first | exact Drawn0.refl _ | apply Drawn0.step)⟩

/-! ### gojson_skipWhiteSpace: function 87 -/
def gojson_skipWhiteSpace.l0 : Nat → List Int → Int → Option (Int)
  | 0, _, _ => none
  | k + 1, x0, x1 => if 0 ≤ x1 then (if x1 < (x0.length : Int) then ((gojson_isWhiteSpace.f (rd x0 x1)).bind fun t102 => (if t102 = true then (gojson_skipWhiteSpace.l0 k x0 (wrap64 (x1 + 1))) else (some x1))) else (none)) else (none)
def gojson_skipWhiteSpace.f (k : Nat) (l0 : List Int) (a1 : Int) : Option (Int) := gojson_skipWhiteSpace.l0 k l0 a1
theorem gojson_skipWhiteSpace.mono_l : ∀ k, (∀ y0 y1, LeO (gojson_skipWhiteSpace.l0 k y0 y1) (gojson_skipWhiteSpace.l0 (k + 1) y0 y1))
  | 0 => fun _ _ r h => by simp [gojson_skipWhiteSpace.l0] at h
  | k + 1 => by
    have ih0 := gojson_skipWhiteSpace.mono_l k
    · intro y0 y1
      unfold gojson_skipWhiteSpace.l0
      repeat' first
      | (with_reducible exact ih0 _ _)
      | (with_reducible exact LeO.refl _)
      | (with_reducible exact LeO.none _)
      | (with_reducible refine LeO.ite ?_ ?_)
      | (with_reducible refine LeO.bind ?_ (fun _ => ?_))
      | exact ih0 _ _
      | exact LeO.none _
      | refine LeO.ite ?_ ?_
      | refine LeO.bind ?_ (fun _ => ?_)
theorem gojson_skipWhiteSpace.mono : ∀ a0 a1 k, LeO (gojson_skipWhiteSpace.f k a0 a1) (gojson_skipWhiteSpace.f (k + 1) a0 a1) := by
  intro a0 a1 k
  have ih0 := gojson_skipWhiteSpace.mono_l k
  unfold gojson_skipWhiteSpace.f
  repeat' first
      | (with_reducible exact ih0 _ _)
      | (with_reducible exact LeO.refl _)
      | (with_reducible exact LeO.none _)
      | (with_reducible refine LeO.ite ?_ ?_)
      | (with_reducible refine LeO.bind ?_ (fun _ => ?_))
      | exact ih0 _ _
      | exact LeO.none _
      | refine LeO.ite ?_ ?_
      | refine LeO.bind ?_ (fun _ => ?_)
set_option maxHeartbeats 8000000 in
set_option maxRecDepth 100000 in
theorem gojson_skipWhiteSpace.calls (k : Nat) (A0 : Option Addr) (c0 : Nat) (l0 : List Int) (a1 : Int) (r : Int) (w : World) (hr0 : Kd.C (Kd.int .u8) w A0 l0.length l0) (hc0 : l0.length ≤ c0) (h : gojson_skipWhiteSpace.f k l0 a1 = some r) :
    Calls Tryd.prog 87 #[.slice A0 l0.length c0, .int .i64 a1] w fun e w' => e = .returned (.int .i64 r) ∧ Drawn0 w w' := by
  have HR0 := Aside0.mk hr0
  have HC0 := Aside0.mk hc0
  clear hr0 hc0
  have H : (gojson_skipWhiteSpace.l0 k l0 a1) = some r := h
  clear h
  have H' := Aside0.mk H
  clear H
  go_enter Tryd.func87, Tryd.ntmps87
  go_wp2
  go_loopg [1] k (fun kq v1 w' => ∃ (x1_1 : Int), v1 = .int .i64 x1_1 ∧ Aside0 (gojson_skipWhiteSpace.l0 kq l0 x1_1 = some r) ∧ Aside0 (kq ≤ k) ∧ Drawn0 w w')
  case atStart => exact ⟨(a1), (by first | rfl | (simp; done) | (simp [*]; done) | (simp [wrap64]; done)), H', ⟨Nat.le_refl _⟩, by repeat (first | exact Drawn0.refl _ | apply Drawn0.step)⟩
  case round =>
    clear H'
    try clear p2
    obtain ⟨x1_1, rfl, HA, HK1, ⟨m1, rfl⟩⟩ := hrel
    cases gk with
    | zero => exact absurd HA.out (by simp [gojson_skipWhiteSpace.l0])
    | succ k1 =>
      have H := HA.out
      clear HA
      simp only [gojson_skipWhiteSpace.l0] at H
      by_cases c3 : 0 ≤ x1_1
      · rw [if_pos c3] at H
        have c3b0 : decide (0 ≤ x1_1) = true := decide_eq_true c3
        clear c3
        by_cases c4 : x1_1 < (l0.length : Int)
        · rw [if_pos c4] at H
          have c4b0 : decide (x1_1 < (l0.length : Int)) = true := decide_eq_true c4
          clear c4
          replace H := Option.bind_eq_some_iff.mp H
          obtain ⟨t102, A50, H⟩ := H
          replace H : (if t102 = true then (gojson_skipWhiteSpace.l0 k1 l0 (wrap64 (x1_1 + 1))) else (some x1_1)) = some r := H
          have A5 := Aside0.mk A50
          clear A50
          by_cases c6 : t102 = true
          · subst c6
            have H1 : (gojson_skipWhiteSpace.l0 k1 l0 (wrap64 (x1_1 + 1))) = some r := by rw [if_pos rfl] at H; exact H
            clear H
            have H := H1
            clear H1
            have H' := Aside0.mk H
            clear H
            have p101 : 0 ≤ (x1_1 : Int) := of_decide_eq_true (by first | (with_reducible assumption) | assumption)
            have q101 : x1_1 < (l0.length : Int) := of_decide_eq_true (by first | (with_reducible assumption) | assumption)
            obtain ⟨ad101, e101, hx101_0⟩ := Kd.at_int HR0.out x1_1 p101 q101
            cases e101
            replace p101 := eq_true p101
            replace q101 := eq_true q101
            go_wp2_with (first | ((with_reducible refine gate_callee (f := 121) rfl ?_); refine goesL_ (some 9) rfl rfl Tryd.func121 (by kernel_rfl) rfl #[.int .u8 (rd l0 x1_1)] rfl (by (try simp only [List.map_toArray, List.map_cons, List.map_nil]); first | done | rfl | (simp only [List.length_drop, List.length_take]; rfl)) ?_; (with_reducible refine (gojson_isWhiteSpace.calls (rd l0 x1_1) true _ A5.out).mono ?_); rintro e w' ⟨rfl, ⟨nd, rfl⟩⟩; refine ⟨_, rfl, ?_⟩))
            go_roundg k1
            case measure => have := HK1.out; omega
            case rel => exact ⟨(wrap64 (x1_1 + 1)), (by first | rfl | (simp; done) | (simp [*]; done) | (simp [wrap64]; done)), H', ⟨by have := HK1.out; omega⟩, by repeat (first | exact Drawn0.refl _ | apply Drawn0.step)⟩
          · replace c6 := Bool.eq_false_iff.mpr c6
            subst c6
            have H1 : (some x1_1) = some r := by rw [if_neg (show ¬ (false = true) by decide)] at H; exact H
            clear H
            have H := H1
            clear H1
            obtain rfl := Option.some.inj H
            have p101 : 0 ≤ (x1_1 : Int) := of_decide_eq_true (by first | (with_reducible assumption) | assumption)
            have q101 : x1_1 < (l0.length : Int) := of_decide_eq_true (by first | (with_reducible assumption) | assumption)
            obtain ⟨ad101, e101, hx101_0⟩ := Kd.at_int HR0.out x1_1 p101 q101
            cases e101
            replace p101 := eq_true p101
            replace q101 := eq_true q101
            go_wp2_with (first | ((with_reducible refine gate_callee (f := 121) rfl ?_); refine goesL_ (some 9) rfl rfl Tryd.func121 (by kernel_rfl) rfl #[.int .u8 (rd l0 x1_1)] rfl (by (try simp only [List.map_toArray, List.map_cons, List.map_nil]); first | done | rfl | (simp only [List.length_drop, List.length_take]; rfl)) ?_; (with_reducible refine (gojson_isWhiteSpace.calls (rd l0 x1_1) false _ A5.out).mono ?_); rintro e w' ⟨rfl, ⟨nd, rfl⟩⟩; refine ⟨_, rfl, ?_⟩))
            go_ret
            exact ⟨by first | rfl | (simp; done) | (simp [*]; done) | (simp [wrap64]; done), by repeat (first | exact Drawn0.refl _ | apply Drawn0.step)⟩
        · rw [if_neg c4] at H
          exact absurd H (by simp)
      · rw [if_neg c3] at H
        exact absurd H (by simp)

/-! ### gojson_skipDigits: function 146 -/
def gojson_skipDigits.l0 : Nat → List Int → Int → Option (Int)
  | 0, _, _ => none
  | k + 1, x0, x1 => if 0 ≤ x1 then (if x1 < (x0.length : Int) then (if (((rd x0 x1) - 48) % 256) ≤ 9 then (gojson_skipDigits.l0 k x0 (wrap64 (x1 + 1))) else (some x1)) else (none)) else (none)
def gojson_skipDigits.f (k : Nat) (l0 : List Int) (a1 : Int) : Option (Int) := gojson_skipDigits.l0 k l0 a1
theorem gojson_skipDigits.mono_l : ∀ k, (∀ y0 y1, LeO (gojson_skipDigits.l0 k y0 y1) (gojson_skipDigits.l0 (k + 1) y0 y1))
  | 0 => fun _ _ r h => by simp [gojson_skipDigits.l0] at h
  | k + 1 => by
    have ih0 := gojson_skipDigits.mono_l k
    · intro y0 y1
      unfold gojson_skipDigits.l0
      repeat' first
      | (with_reducible exact ih0 _ _)
      | (with_reducible exact LeO.refl _)
      | (with_reducible exact LeO.none _)
      | (with_reducible refine LeO.ite ?_ ?_)
      | (with_reducible refine LeO.bind ?_ (fun _ => ?_))
      | exact ih0 _ _
      | exact LeO.none _
      | refine LeO.ite ?_ ?_
      | refine LeO.bind ?_ (fun _ => ?_)
theorem gojson_skipDigits.mono : ∀ a0 a1 k, LeO (gojson_skipDigits.f k a0 a1) (gojson_skipDigits.f (k + 1) a0 a1) := by
  intro a0 a1 k
  have ih0 := gojson_skipDigits.mono_l k
  unfold gojson_skipDigits.f
  repeat' first
      | (with_reducible exact ih0 _ _)
      | (with_reducible exact LeO.refl _)
      | (with_reducible exact LeO.none _)
      | (with_reducible refine LeO.ite ?_ ?_)
      | (with_reducible refine LeO.bind ?_ (fun _ => ?_))
      | exact ih0 _ _
      | exact LeO.none _
      | refine LeO.ite ?_ ?_
      | refine LeO.bind ?_ (fun _ => ?_)
set_option maxHeartbeats 8000000 in
set_option maxRecDepth 100000 in
theorem gojson_skipDigits.calls (k : Nat) (A0 : Option Addr) (c0 : Nat) (l0 : List Int) (a1 : Int) (r : Int) (w : World) (hr0 : Kd.C (Kd.int .u8) w A0 l0.length l0) (hc0 : l0.length ≤ c0) (h : gojson_skipDigits.f k l0 a1 = some r) :
    Calls Tryd.prog 146 #[.slice A0 l0.length c0, .int .i64 a1] w fun e w' => e = .returned (.int .i64 r) ∧ Drawn0 w w' := by
  have HR0 := Aside0.mk hr0
  have HC0 := Aside0.mk hc0
  clear hr0 hc0
  have H : (gojson_skipDigits.l0 k l0 a1) = some r := h
  clear h
  have H' := Aside0.mk H
  clear H
  go_enter Tryd.func146, Tryd.ntmps146
  go_wp2
  go_loopg [1] k (fun kq v1 w' => ∃ (x1_1 : Int), v1 = .int .i64 x1_1 ∧ Aside0 (gojson_skipDigits.l0 kq l0 x1_1 = some r) ∧ Aside0 (kq ≤ k) ∧ Drawn0 w w')
  case atStart => exact ⟨(a1), (by first | rfl | (simp; done) | (simp [*]; done) | (simp [wrap64]; done)), H', ⟨Nat.le_refl _⟩, by repeat (first | exact Drawn0.refl _ | apply Drawn0.step)⟩
  case round =>
    clear H'
    try clear c1
    try clear p2
    obtain ⟨x1_1, rfl, HA, HK1, ⟨m1, rfl⟩⟩ := hrel
    cases gk with
    | zero => exact absurd HA.out (by simp [gojson_skipDigits.l0])
    | succ k1 =>
      have H := HA.out
      clear HA
      simp only [gojson_skipDigits.l0] at H
      by_cases c3 : 0 ≤ x1_1
      · rw [if_pos c3] at H
        have c3b0 : decide (0 ≤ x1_1) = true := decide_eq_true c3
        clear c3
        by_cases c4 : x1_1 < (l0.length : Int)
        · rw [if_pos c4] at H
          have c4b0 : decide (x1_1 < (l0.length : Int)) = true := decide_eq_true c4
          clear c4
          by_cases c5 : (((rd l0 x1_1) - 48) % 256) ≤ 9
          · rw [if_pos c5] at H
            have c5b0 : decide ((((rd l0 x1_1) - 48) % 256) ≤ 9) = true := decide_eq_true c5
            clear c5
            have H' := Aside0.mk H
            clear H
            have p103 : 0 ≤ (x1_1 : Int) := of_decide_eq_true (by first | (with_reducible assumption) | assumption)
            have q103 : x1_1 < (l0.length : Int) := of_decide_eq_true (by first | (with_reducible assumption) | assumption)
            obtain ⟨ad103, e103, hx103_0⟩ := Kd.at_int HR0.out x1_1 p103 q103
            cases e103
            replace p103 := eq_true p103
            replace q103 := eq_true q103
            go_wp2
            go_roundg k1
            case measure => have := HK1.out; omega
            case rel => exact ⟨(wrap64 (x1_1 + 1)), (by first | rfl | (simp; done) | (simp [*]; done) | (simp [wrap64]; done)), H', ⟨by have := HK1.out; omega⟩, by repeat (first | exact Drawn0.refl _ | apply Drawn0.step)⟩
          · rw [if_neg c5] at H
            have c5b0 : decide ((((rd l0 x1_1) - 48) % 256) ≤ 9) = false := decide_eq_false c5
            clear c5
            obtain rfl := Option.some.inj H
            have p103 : 0 ≤ (x1_1 : Int) := of_decide_eq_true (by first | (with_reducible assumption) | assumption)
            have q103 : x1_1 < (l0.length : Int) := of_decide_eq_true (by first | (with_reducible assumption) | assumption)
            obtain ⟨ad103, e103, hx103_0⟩ := Kd.at_int HR0.out x1_1 p103 q103
            cases e103
            replace p103 := eq_true p103
            replace q103 := eq_true q103
            go_wp2
            go_ret
            exact ⟨by first | rfl | (simp; done) | (simp [*]; done) | (simp [wrap64]; done), by repeat (first | exact Drawn0.refl _ | apply Drawn0.step)⟩
        · rw [if_neg c4] at H
          exact absurd H (by simp)
      · rw [if_neg c3] at H
        exact absurd H (by simp)

/-! ### gojson_char: function 122 -/
def gojson_char.f (l0 : List Int) (a1 : Int) : Option (Int) := if 0 ≤ a1 then (if a1 < (l0.length : Int) then (some (rd l0 a1)) else (none)) else (none)
set_option maxHeartbeats 8000000 in
set_option maxRecDepth 100000 in
theorem gojson_char.calls (A0 : Option Addr) (c0 : Nat) (l0 : List Int) (a1 : Int) (r : Int) (w : World) (hr0 : Kd.C (Kd.int .u8) w A0 l0.length l0) (hc0 : l0.length ≤ c0) (h : gojson_char.f l0 a1 = some r) :
    Calls Tryd.prog 122 #[.slice A0 l0.length c0, .int .i64 a1] w fun e w' => e = .returned (.int .u8 r) ∧ Drawn0 w w' := by
  have HR0 := Aside0.mk hr0
  have HC0 := Aside0.mk hc0
  clear hr0 hc0
  have H : (if 0 ≤ a1 then (if a1 < (l0.length : Int) then (some (rd l0 a1)) else (none)) else (none)) = some r := h
  clear h
  by_cases c3 : 0 ≤ a1
  · rw [if_pos c3] at H
    have c3b0 : decide (0 ≤ a1) = true := decide_eq_true c3
    clear c3
    by_cases c4 : a1 < (l0.length : Int)
    · rw [if_pos c4] at H
      have c4b0 : decide (a1 < (l0.length : Int)) = true := decide_eq_true c4
      clear c4
      obtain rfl := Option.some.inj H
      have p104 : 0 ≤ (a1 : Int) := of_decide_eq_true (by first | (with_reducible assumption) | assumption)
      have q104 : a1 < (l0.length : Int) := of_decide_eq_true (by first | (with_reducible assumption) | assumption)
      obtain ⟨ad104, e104, hx104_0⟩ := Kd.at_int HR0.out a1 p104 q104
      cases e104
      replace p104 := eq_true p104
      replace q104 := eq_true q104
      go_enter Tryd.func122, Tryd.ntmps122
      go_wp2
      go_ret
      exact ⟨by first | rfl | (simp; done) | (simp [*]; done) | (simp [wrap64]; done), by repeat (first | exact Drawn0.refl _ | apply Drawn0.step)⟩
    · rw [if_neg c4] at H
      exact absurd H (by simp)
  · rw [if_neg c3] at H
    exact absurd H (by simp)

/-! ### gojson_keyEndBytes: function 108 -/
def gojson_keyEndBytes.f (a0 : Int) : Option (Int) := some (Go.bits .and .u64 (Go.bits .or .u64 (Go.bits .or .u64 (Go.bits .andNot .u64 (IntKind.u64.wrap ((Go.bits .xor .u64 a0 2459565876494606882) - 72340172838076673)) (Go.bits .xor .u64 a0 2459565876494606882)) (Go.bits .andNot .u64 (IntKind.u64.wrap ((Go.bits .xor .u64 a0 6655295901103053916) - 72340172838076673)) (Go.bits .xor .u64 a0 6655295901103053916))) (Go.bits .andNot .u64 (IntKind.u64.wrap (a0 - 2314885530818453536)) a0)) 9259542123273814144)
set_option maxHeartbeats 8000000 in
set_option maxRecDepth 100000 in
theorem gojson_keyEndBytes.calls (a0 : Int) (r : Int) (w : World) (h : gojson_keyEndBytes.f a0 = some r) :
    Calls Tryd.prog 108 #[.int .u64 a0] w fun e w' => e = .returned (.int .u64 r) ∧ Drawn0 w w' := by
  have H : (some (Go.bits .and .u64 (Go.bits .or .u64 (Go.bits .or .u64 (Go.bits .andNot .u64 (IntKind.u64.wrap ((Go.bits .xor .u64 a0 2459565876494606882) - 72340172838076673)) (Go.bits .xor .u64 a0 2459565876494606882)) (Go.bits .andNot .u64 (IntKind.u64.wrap ((Go.bits .xor .u64 a0 6655295901103053916) - 72340172838076673)) (Go.bits .xor .u64 a0 6655295901103053916))) (Go.bits .andNot .u64 (IntKind.u64.wrap (a0 - 2314885530818453536)) a0)) 9259542123273814144)) = some r := h
  clear h
  obtain rfl := Option.some.inj H
  go_enter Tryd.func108, Tryd.ntmps108
  go_wp2
  go_ret
  exact ⟨by first | rfl | (simp; done) | (simp [*]; done) | (simp [wrap64]; done), by repeat (first | exact Drawn0.refl _ | apply Drawn0.step)⟩

/-! ### gojson_le64: function 101 -/
def gojson_le64.f (l0 : List Int) : Option (Int) := if 7 < (l0.length : Int) then (if 0 < (l0.length : Int) then (if 1 < (l0.length : Int) then (if 2 < (l0.length : Int) then (if 3 < (l0.length : Int) then (if 4 < (l0.length : Int) then (if 5 < (l0.length : Int) then (if 6 < (l0.length : Int) then (some (Go.bits .or .u64 (Go.bits .or .u64 (Go.bits .or .u64 (Go.bits .or .u64 (Go.bits .or .u64 (Go.bits .or .u64 (Go.bits .or .u64 (IntKind.u64.wrap (rd l0 0)) (IntKind.u64.wrap ((IntKind.u64.wrap (rd l0 1)) * 256))) (IntKind.u64.wrap ((IntKind.u64.wrap (rd l0 2)) * 65536))) (IntKind.u64.wrap ((IntKind.u64.wrap (rd l0 3)) * 16777216))) (IntKind.u64.wrap ((IntKind.u64.wrap (rd l0 4)) * 4294967296))) (IntKind.u64.wrap ((IntKind.u64.wrap (rd l0 5)) * 1099511627776))) (IntKind.u64.wrap ((IntKind.u64.wrap (rd l0 6)) * 281474976710656))) (IntKind.u64.wrap ((IntKind.u64.wrap (rd l0 7)) * 72057594037927936)))) else (none)) else (none)) else (none)) else (none)) else (none)) else (none)) else (none)) else (none)
set_option maxHeartbeats 8000000 in
set_option maxRecDepth 100000 in
theorem gojson_le64.calls (A0 : Option Addr) (c0 : Nat) (l0 : List Int) (r : Int) (w : World) (hr0 : Kd.C (Kd.int .u8) w A0 l0.length l0) (hc0 : l0.length ≤ c0) (h : gojson_le64.f l0 = some r) :
    Calls Tryd.prog 101 #[.slice A0 l0.length c0] w fun e w' => e = .returned (.int .u64 r) ∧ Drawn0 w w' := by
  have HR0 := Aside0.mk hr0
  have HC0 := Aside0.mk hc0
  clear hr0 hc0
  have H : (if 7 < (l0.length : Int) then (if 0 < (l0.length : Int) then (if 1 < (l0.length : Int) then (if 2 < (l0.length : Int) then (if 3 < (l0.length : Int) then (if 4 < (l0.length : Int) then (if 5 < (l0.length : Int) then (if 6 < (l0.length : Int) then (some (Go.bits .or .u64 (Go.bits .or .u64 (Go.bits .or .u64 (Go.bits .or .u64 (Go.bits .or .u64 (Go.bits .or .u64 (Go.bits .or .u64 (IntKind.u64.wrap (rd l0 0)) (IntKind.u64.wrap ((IntKind.u64.wrap (rd l0 1)) * 256))) (IntKind.u64.wrap ((IntKind.u64.wrap (rd l0 2)) * 65536))) (IntKind.u64.wrap ((IntKind.u64.wrap (rd l0 3)) * 16777216))) (IntKind.u64.wrap ((IntKind.u64.wrap (rd l0 4)) * 4294967296))) (IntKind.u64.wrap ((IntKind.u64.wrap (rd l0 5)) * 1099511627776))) (IntKind.u64.wrap ((IntKind.u64.wrap (rd l0 6)) * 281474976710656))) (IntKind.u64.wrap ((IntKind.u64.wrap (rd l0 7)) * 72057594037927936)))) else (none)) else (none)) else (none)) else (none)) else (none)) else (none)) else (none)) else (none)) = some r := h
  clear h
  by_cases c2 : 7 < (l0.length : Int)
  · rw [if_pos c2] at H
    have c2b0 : decide (7 < (l0.length : Int)) = true := decide_eq_true c2
    have c2b1 : decide (7 < l0.length) = true := decide_eq_true (by omega)
    clear c2
    by_cases c3 : 0 < (l0.length : Int)
    · rw [if_pos c3] at H
      have c3b0 : decide (0 < (l0.length : Int)) = true := decide_eq_true c3
      have c3b1 : decide (0 < l0.length) = true := decide_eq_true (by omega)
      clear c3
      by_cases c4 : 1 < (l0.length : Int)
      · rw [if_pos c4] at H
        have c4b0 : decide (1 < (l0.length : Int)) = true := decide_eq_true c4
        have c4b1 : decide (1 < l0.length) = true := decide_eq_true (by omega)
        clear c4
        by_cases c5 : 2 < (l0.length : Int)
        · rw [if_pos c5] at H
          have c5b0 : decide (2 < (l0.length : Int)) = true := decide_eq_true c5
          have c5b1 : decide (2 < l0.length) = true := decide_eq_true (by omega)
          clear c5
          by_cases c6 : 3 < (l0.length : Int)
          · rw [if_pos c6] at H
            have c6b0 : decide (3 < (l0.length : Int)) = true := decide_eq_true c6
            have c6b1 : decide (3 < l0.length) = true := decide_eq_true (by omega)
            clear c6
            by_cases c7 : 4 < (l0.length : Int)
            · rw [if_pos c7] at H
              have c7b0 : decide (4 < (l0.length : Int)) = true := decide_eq_true c7
              have c7b1 : decide (4 < l0.length) = true := decide_eq_true (by omega)
              clear c7
              by_cases c8 : 5 < (l0.length : Int)
              · rw [if_pos c8] at H
                have c8b0 : decide (5 < (l0.length : Int)) = true := decide_eq_true c8
                have c8b1 : decide (5 < l0.length) = true := decide_eq_true (by omega)
                clear c8
                by_cases c9 : 6 < (l0.length : Int)
                · rw [if_pos c9] at H
                  have c9b0 : decide (6 < (l0.length : Int)) = true := decide_eq_true c9
                  have c9b1 : decide (6 < l0.length) = true := decide_eq_true (by omega)
                  clear c9
                  obtain rfl := Option.some.inj H
                  have p105 : 0 ≤ (7 : Int) := (by omega)
                  have q105 : 7 < (l0.length : Int) := of_decide_eq_true (by first | (with_reducible assumption) | assumption)
                  obtain ⟨ad105, e105, hx105_0⟩ := Kd.at_int HR0.out 7 p105 q105
                  cases e105
                  (try simp only [show (7 : Int).toNat = 7 from rfl, Nat.reduceMul, Nat.reduceEqDiff, Go.Addr.add, ↓reduceIte] at hx105_0)
                  have qi105 : (7 < l0.length) = True := eq_true (by omega)
                  (try rw [show ((7 : Int)).toNat = 7 from rfl] at hx105_0)
                  replace p105 := eq_true p105
                  replace q105 := eq_true q105
                  have p106 : 0 ≤ (0 : Int) := (by omega)
                  have q106 : 0 < (l0.length : Int) := of_decide_eq_true (by first | (with_reducible assumption) | assumption)
                  obtain ⟨ad106, e106, hx106_0⟩ := Kd.at_int HR0.out 0 p106 q106
                  obtain rfl : ad105 = ad106 := (by injection e106)
                  have qi106 : (0 < l0.length) = True := eq_true (by omega)
                  (try rw [show ((0 : Int)).toNat = 0 from rfl] at hx106_0)
                  (try rw [Addr.add_zero'] at hx106_0)
                  replace p106 := eq_true p106
                  replace q106 := eq_true q106
                  have p107 : 0 ≤ (1 : Int) := (by omega)
                  have q107 : 1 < (l0.length : Int) := of_decide_eq_true (by first | (with_reducible assumption) | assumption)
                  obtain ⟨ad107, e107, hx107_0⟩ := Kd.at_int HR0.out 1 p107 q107
                  obtain rfl : ad105 = ad107 := (by injection e107)
                  (try simp only [show (1 : Int).toNat = 1 from rfl, Nat.reduceMul, Nat.reduceEqDiff, Go.Addr.add, ↓reduceIte] at hx107_0)
                  have qi107 : (1 < l0.length) = True := eq_true (by omega)
                  (try rw [show ((1 : Int)).toNat = 1 from rfl] at hx107_0)
                  replace p107 := eq_true p107
                  replace q107 := eq_true q107
                  have p108 : 0 ≤ (2 : Int) := (by omega)
                  have q108 : 2 < (l0.length : Int) := of_decide_eq_true (by first | (with_reducible assumption) | assumption)
                  obtain ⟨ad108, e108, hx108_0⟩ := Kd.at_int HR0.out 2 p108 q108
                  obtain rfl : ad105 = ad108 := (by injection e108)
                  (try simp only [show (2 : Int).toNat = 2 from rfl, Nat.reduceMul, Nat.reduceEqDiff, Go.Addr.add, ↓reduceIte] at hx108_0)
                  have qi108 : (2 < l0.length) = True := eq_true (by omega)
                  (try rw [show ((2 : Int)).toNat = 2 from rfl] at hx108_0)
                  replace p108 := eq_true p108
                  replace q108 := eq_true q108
                  have p109 : 0 ≤ (3 : Int) := (by omega)
                  have q109 : 3 < (l0.length : Int) := of_decide_eq_true (by first | (with_reducible assumption) | assumption)
                  obtain ⟨ad109, e109, hx109_0⟩ := Kd.at_int HR0.out 3 p109 q109
                  obtain rfl : ad105 = ad109 := (by injection e109)
                  (try simp only [show (3 : Int).toNat = 3 from rfl, Nat.reduceMul, Nat.reduceEqDiff, Go.Addr.add, ↓reduceIte] at hx109_0)
                  have qi109 : (3 < l0.length) = True := eq_true (by omega)
                  (try rw [show ((3 : Int)).toNat = 3 from rfl] at hx109_0)
                  replace p109 := eq_true p109
                  replace q109 := eq_true q109
                  have p110 : 0 ≤ (4 : Int) := (by omega)
                  have q110 : 4 < (l0.length : Int) := of_decide_eq_true (by first | (with_reducible assumption) | assumption)
                  obtain ⟨ad110, e110, hx110_0⟩ := Kd.at_int HR0.out 4 p110 q110
                  obtain rfl : ad105 = ad110 := (by injection e110)
                  (try simp only [show (4 : Int).toNat = 4 from rfl, Nat.reduceMul, Nat.reduceEqDiff, Go.Addr.add, ↓reduceIte] at hx110_0)
                  have qi110 : (4 < l0.length) = True := eq_true (by omega)
                  (try rw [show ((4 : Int)).toNat = 4 from rfl] at hx110_0)
                  replace p110 := eq_true p110
                  replace q110 := eq_true q110
                  have p111 : 0 ≤ (5 : Int) := (by omega)
                  have q111 : 5 < (l0.length : Int) := of_decide_eq_true (by first | (with_reducible assumption) | assumption)
                  obtain ⟨ad111, e111, hx111_0⟩ := Kd.at_int HR0.out 5 p111 q111
                  obtain rfl : ad105 = ad111 := (by injection e111)
                  (try simp only [show (5 : Int).toNat = 5 from rfl, Nat.reduceMul, Nat.reduceEqDiff, Go.Addr.add, ↓reduceIte] at hx111_0)
                  have qi111 : (5 < l0.length) = True := eq_true (by omega)
                  (try rw [show ((5 : Int)).toNat = 5 from rfl] at hx111_0)
                  replace p111 := eq_true p111
                  replace q111 := eq_true q111
                  have p112 : 0 ≤ (6 : Int) := (by omega)
                  have q112 : 6 < (l0.length : Int) := of_decide_eq_true (by first | (with_reducible assumption) | assumption)
                  obtain ⟨ad112, e112, hx112_0⟩ := Kd.at_int HR0.out 6 p112 q112
                  obtain rfl : ad105 = ad112 := (by injection e112)
                  (try simp only [show (6 : Int).toNat = 6 from rfl, Nat.reduceMul, Nat.reduceEqDiff, Go.Addr.add, ↓reduceIte] at hx112_0)
                  have qi112 : (6 < l0.length) = True := eq_true (by omega)
                  (try rw [show ((6 : Int)).toNat = 6 from rfl] at hx112_0)
                  replace p112 := eq_true p112
                  replace q112 := eq_true q112
                  have p113 : 0 ≤ (7 : Int) := (by omega)
                  have q113 : 7 < (l0.length : Int) := of_decide_eq_true (by first | (with_reducible assumption) | assumption)
                  obtain ⟨ad113, e113, hx113_0⟩ := Kd.at_int HR0.out 7 p113 q113
                  obtain rfl : ad105 = ad113 := (by injection e113)
                  (try simp only [show (7 : Int).toNat = 7 from rfl, Nat.reduceMul, Nat.reduceEqDiff, Go.Addr.add, ↓reduceIte] at hx113_0)
                  have qi113 : (7 < l0.length) = True := eq_true (by omega)
                  (try rw [show ((7 : Int)).toNat = 7 from rfl] at hx113_0)
                  replace p113 := eq_true p113
                  replace q113 := eq_true q113
                  go_enter Tryd.func101, Tryd.ntmps101
                  go_wp2
                  repeat (go_quiet (fail); try go_wp2)
                  go_ret
                  exact ⟨by first | rfl | (simp; done) | (simp [*]; done) | (simp [wrap64]; done), by repeat (first | exact Drawn0.refl _ | apply Drawn0.step)⟩
                · rw [if_neg c9] at H
                  exact absurd H (by simp)
              · rw [if_neg c8] at H
                exact absurd H (by simp)
            · rw [if_neg c7] at H
              exact absurd H (by simp)
          · rw [if_neg c6] at H
            exact absurd H (by simp)
        · rw [if_neg c5] at H
          exact absurd H (by simp)
      · rw [if_neg c4] at H
        exact absurd H (by simp)
    · rw [if_neg c3] at H
      exact absurd H (by simp)
  · rw [if_neg c2] at H
    exact absurd H (by simp)

/-! ### gojson_load64: function 109 -/
def gojson_load64.f (l0 : List Int) (a1 : Int) : Option (Int) := if 0 ≤ a1 then (if a1 ≤ (l0.length : Int) then ((gojson_le64.f (l0.drop (a1 : Int).toNat)).bind fun t115 => (some t115)) else (none)) else (none)
set_option maxHeartbeats 8000000 in
set_option maxRecDepth 100000 in
theorem gojson_load64.calls (A0 : Option Addr) (c0 : Nat) (l0 : List Int) (a1 : Int) (r : Int) (w : World) (hr0 : Kd.C (Kd.int .u8) w A0 l0.length l0) (hc0 : l0.length ≤ c0) (h : gojson_load64.f l0 a1 = some r) :
    Calls Tryd.prog 109 #[.slice A0 l0.length c0, .int .i64 a1] w fun e w' => e = .returned (.int .u64 r) ∧ Drawn0 w w' := by
  have HR0 := Aside0.mk hr0
  have HC0 := Aside0.mk hc0
  clear hr0 hc0
  have H : (if 0 ≤ a1 then (if a1 ≤ (l0.length : Int) then ((gojson_le64.f (l0.drop (a1 : Int).toNat)).bind fun t115 => (some t115)) else (none)) else (none)) = some r := h
  clear h
  by_cases c3 : 0 ≤ a1
  · rw [if_pos c3] at H
    have c3b0 := eq_true c3
    have c3b1 : decide (0 ≤ a1) = true := decide_eq_true c3
    clear c3
    by_cases c4 : a1 ≤ (l0.length : Int)
    · rw [if_pos c4] at H
      have c4b0 := eq_true c4
      have c4b1 : decide (a1 ≤ (l0.length : Int)) = true := decide_eq_true c4
      clear c4
      replace H := Option.bind_eq_some_iff.mp H
      obtain ⟨t115, A50, H⟩ := H
      replace H : (some t115) = some r := H
      have A5 := Aside0.mk A50
      clear A50
      obtain rfl := Option.some.inj H
      obtain ⟨i06, hi06, _, hsz6, _⟩ := info_parts info5
      obtain ⟨A6, hcut6, hA6, hC6⟩ := print_drop_of (P := Tryd.prog) (Value.int .u8) 0 22 5 .i64 Tryd.underlying22 hi06 hsz6 A0 c0 l0 a1 (of_decide_eq_true (by first | (with_reducible assumption) | assumption)) (of_decide_eq_true (by first | (with_reducible assumption) | assumption)) HC0.out
      have HR114 := Aside0.mk (Kd.C_of_reads (h1 := fun _ => rfl) (hA6 _ (Kd.reads_of_C HR0.out)))
      have HC114 := Aside0.mk hC6
      clear hA6 hC6 hi06 hsz6
      go_enter Tryd.func109, Tryd.ntmps109
      go_wp2_with (first | ((with_reducible refine gate_callee (f := 101) rfl ?_); refine goesL_ (some 8) rfl rfl Tryd.func101 (by kernel_rfl) rfl #[.slice A6 (l0.drop (a1 : Int).toNat).length (c0 - a1.toNat)] rfl (by (try simp only [List.map_toArray, List.map_cons, List.map_nil]); first | done | (rw [show (l0.drop (a1 : Int).toNat).length = (l0.length - a1.toNat) from List.length_drop] <;> rfl) | rfl | (simp only [List.length_drop, List.length_take]; rfl)) ?_; (with_reducible refine (gojson_le64.calls _ _ (l0.drop (a1 : Int).toNat) t115 _ ?side1 ?side2 A5.out).mono ?_); (case side1 => repeat (first | exact HR114.out | (with_reducible refine Kd.C_alloc ?_ _) | (with_reducible refine Kd.C_drewN ?_ _) | (with_reducible refine Kd.C_drew ?_))); (case side2 => exact HC114.out); rintro e w' ⟨rfl, ⟨nd, rfl⟩⟩; refine ⟨_, rfl, ?_⟩))
      go_ret
      exact ⟨by first | rfl | (simp; done) | (simp [*]; done) | (simp [wrap64]; done), by repeat (first | exact Drawn0.refl _ | apply Drawn0.step)⟩
    · rw [if_neg c4] at H
      exact absurd H (by simp)
  · rw [if_neg c3] at H
    exact absurd H (by simp)

/-! ### gojson_skipMaxLevel: function 115 -/
def gojson_skipMaxLevel.f (a0 : Int) : Option (Int) := some (mn (wrap64 (10000 - a0)) 64)
set_option maxHeartbeats 8000000 in
set_option maxRecDepth 100000 in
theorem gojson_skipMaxLevel.calls (a0 : Int) (r : Int) (w : World) (h : gojson_skipMaxLevel.f a0 = some r) :
    Calls Tryd.prog 115 #[.int .i64 a0] w fun e w' => e = .returned (.int .i64 r) ∧ Below w.heap.size w w' := by
  have HB := Aside0.mk (Below.refl w.heap.size w)
  have H : (some (mn (wrap64 (10000 - a0)) 64)) = some r := h
  clear h
  obtain ⟨ji2, hji2⟩ : ∃ j_ : Int, (mn (wrap64 (10000 - a0)) 64) = j_ := ⟨_, rfl⟩
  replace H : (some ji2) = some r := by first | (rw [hji2] at H; exact H) | (simp only [hji2] at H ⊢; exact H)
  (try (have hji2h : ji2 ≤ 64 := by (rw [← hji2]; unfold mn; (repeat' split) <;> omega)))
  (try (have hji2g : ji2 ≤ 64 := by omega))
  have hji2_ : (if 64 < (wrap64 (10000 - a0)) then 64 else (wrap64 (10000 - a0))) = ji2 := hji2
  obtain rfl := Option.some.inj H
  go_enter Tryd.func115, Tryd.ntmps115
  go_wp2
  go_ret
  exact ⟨by first | rfl | (simp [errW_none, errW_some] <;> rfl) | (simp only [← hji2]; first | rfl | (simp [errW_none, errW_some] <;> rfl)) | (simp [*, errW_none, errW_some] <;> rfl), by repeat (first | (with_reducible first | exact HB.out | apply below_alloc | apply pw_below_drewN | apply below_drew1) | exact HB.out)⟩

/-! ### gojson_inObject: function 125 -/
def gojson_inObject.f (a0 : Int) (l1 : List Int) (a2 : Int) : Option (Bool) := if a2 < 64 then (if 0 ≤ (IntKind.u64.wrap (a2)) then (some ((Go.bits .and .u64 a0 (shl .u64 1 (IntKind.u64.wrap (a2)))) != 0)) else (none)) else (if 0 ≤ (wrap64 (Int.tdiv (wrap64 (a2 - 64)) 64)) then (if (wrap64 (Int.tdiv (wrap64 (a2 - 64)) 64)) < (l1.length : Int) then (if 0 ≤ (IntKind.u64.wrap (Int.tmod (wrap64 (a2 - 64)) 64)) then (some ((Go.bits .and .u64 (rd l1 (wrap64 (Int.tdiv (wrap64 (a2 - 64)) 64))) (shl .u64 1 (IntKind.u64.wrap (Int.tmod (wrap64 (a2 - 64)) 64)))) != 0)) else (none)) else (none)) else (none))
set_option maxHeartbeats 8000000 in
set_option maxRecDepth 100000 in
theorem gojson_inObject.calls (a0 : Int) (A1 : Option Addr) (c1 : Nat) (l1 : List Int) (a2 : Int) (r : Bool) (w : World) (hr1 : Kd.C (Kd.int .u64) w A1 l1.length l1) (hc1 : l1.length ≤ c1) (h : gojson_inObject.f a0 l1 a2 = some r) :
    Calls Tryd.prog 125 #[.int .u64 a0, .slice A1 l1.length c1, .int .i64 a2] w fun e w' => e = .returned (.bool r) ∧ Drawn0 w w' := by
  have HR1 := Aside0.mk hr1
  have HC1 := Aside0.mk hc1
  clear hr1 hc1
  have H : (if a2 < 64 then (if 0 ≤ (IntKind.u64.wrap (a2)) then (some ((Go.bits .and .u64 a0 (shl .u64 1 (IntKind.u64.wrap (a2)))) != 0)) else (none)) else (if 0 ≤ (wrap64 (Int.tdiv (wrap64 (a2 - 64)) 64)) then (if (wrap64 (Int.tdiv (wrap64 (a2 - 64)) 64)) < (l1.length : Int) then (if 0 ≤ (IntKind.u64.wrap (Int.tmod (wrap64 (a2 - 64)) 64)) then (some ((Go.bits .and .u64 (rd l1 (wrap64 (Int.tdiv (wrap64 (a2 - 64)) 64))) (shl .u64 1 (IntKind.u64.wrap (Int.tmod (wrap64 (a2 - 64)) 64)))) != 0)) else (none)) else (none)) else (none))) = some r := h
  clear h
  by_cases c4 : a2 < 64
  · rw [if_pos c4] at H
    have c4b0 : decide (a2 < 64) = true := decide_eq_true c4
    clear c4
    obtain ⟨ji5, hji5⟩ : ∃ j_ : Int, (IntKind.u64.wrap (a2)) = j_ := ⟨_, rfl⟩
    replace H : (if 0 ≤ (ji5) then (some ((Go.bits .and .u64 a0 (shl .u64 1 (ji5))) != 0)) else (none)) = some r := by first | (rw [hji5] at H; exact H) | (simp only [hji5] at H ⊢; exact H)
    by_cases c6 : 0 ≤ (ji5)
    · rw [if_pos c6] at H
      have c6b0 := eq_true c6
      have c6b1 : decide (0 ≤ (ji5)) = true := decide_eq_true c6
      clear c6
      obtain ⟨ji7, hji7⟩ : ∃ j_ : Int, (shl .u64 1 (ji5)) = j_ := ⟨_, rfl⟩
      replace H : (some ((Go.bits .and .u64 a0 (ji7)) != 0)) = some r := by first | (rw [hji7] at H; exact H) | (simp only [hji7] at H ⊢; exact H)
      have hji7_ : (IntKind.u64.wrap (1 * 2 ^ min (ji5).toNat 64)) = ji7 := hji7
      have hji7z : (ji5) ≤ 64 → (IntKind.u64.wrap (1 * 2 ^ (ji5).toNat)) = ji7 := shl_small hji7
      have hji7u : (IntKind.u64.wrap (2 ^ min (ji5).toNat 64)) = ji7 := by have h_ := hji7_; rw [Int.one_mul] at h_; exact h_
      have hji7v : (ji5) ≤ 64 → (IntKind.u64.wrap (2 ^ (ji5).toNat)) = ji7 := fun hle_ => by have h_ := hji7z hle_; rw [Int.one_mul] at h_; exact h_
      obtain rfl := Option.some.inj H
      go_enter Tryd.func125, Tryd.ntmps125
      go_wp2
      go_ret
      exact ⟨by first | rfl | (simp; done) | (simp only [← hji5, ← hji7] <;> (first | rfl | simp)) | (simp [*]; done) | (simp [wrap64]; done), by repeat (first | exact Drawn0.refl _ | apply Drawn0.step)⟩
    · rw [if_neg c6] at H
      exact absurd H (by simp)
  · rw [if_neg c4] at H
    have c4b0 : decide (a2 < 64) = false := decide_eq_false c4
    clear c4
    obtain ⟨ji8, hji8⟩ : ∃ j_ : Int, (wrap64 (Int.tdiv (wrap64 (a2 - 64)) 64)) = j_ := ⟨_, rfl⟩
    replace H : (if 0 ≤ (ji8) then (if (ji8) < (l1.length : Int) then (if 0 ≤ (IntKind.u64.wrap (Int.tmod (wrap64 (a2 - 64)) 64)) then (some ((Go.bits .and .u64 (rd l1 (ji8)) (shl .u64 1 (IntKind.u64.wrap (Int.tmod (wrap64 (a2 - 64)) 64)))) != 0)) else (none)) else (none)) else (none)) = some r := by first | (rw [hji8] at H; exact H) | (simp only [hji8] at H ⊢; exact H)
    have hji8w : (IntKind.i64.wrap (Int.tdiv (wrap64 (a2 - 64)) 64)) = ji8 := (i64_w _).trans hji8
    by_cases c9 : 0 ≤ (ji8)
    · rw [if_pos c9] at H
      have c9b0 : decide (0 ≤ (ji8)) = true := decide_eq_true c9
      clear c9
      by_cases c10 : (ji8) < (l1.length : Int)
      · rw [if_pos c10] at H
        have c10b0 : decide ((ji8) < (l1.length : Int)) = true := decide_eq_true c10
        clear c10
        obtain ⟨ji11, hji11⟩ : ∃ j_ : Int, (IntKind.u64.wrap (Int.tmod (wrap64 (a2 - 64)) 64)) = j_ := ⟨_, rfl⟩
        replace H : (if 0 ≤ (ji11) then (some ((Go.bits .and .u64 (rd l1 (ji8)) (shl .u64 1 (ji11))) != 0)) else (none)) = some r := by first | (rw [hji11] at H; exact H) | (simp only [hji11] at H ⊢; exact H)
        by_cases c12 : 0 ≤ (ji11)
        · rw [if_pos c12] at H
          have c12b0 := eq_true c12
          have c12b1 : decide (0 ≤ (ji11)) = true := decide_eq_true c12
          clear c12
          obtain ⟨ji13, hji13⟩ : ∃ j_ : Int, (shl .u64 1 (ji11)) = j_ := ⟨_, rfl⟩
          replace H : (some ((Go.bits .and .u64 (rd l1 (ji8)) (ji13)) != 0)) = some r := by first | (rw [hji13] at H; exact H) | (simp only [hji13] at H ⊢; exact H)
          have hji13_ : (IntKind.u64.wrap (1 * 2 ^ min (ji11).toNat 64)) = ji13 := hji13
          have hji13z : (ji11) ≤ 64 → (IntKind.u64.wrap (1 * 2 ^ (ji11).toNat)) = ji13 := shl_small hji13
          have hji13u : (IntKind.u64.wrap (2 ^ min (ji11).toNat 64)) = ji13 := by have h_ := hji13_; rw [Int.one_mul] at h_; exact h_
          have hji13v : (ji11) ≤ 64 → (IntKind.u64.wrap (2 ^ (ji11).toNat)) = ji13 := fun hle_ => by have h_ := hji13z hle_; rw [Int.one_mul] at h_; exact h_
          obtain rfl := Option.some.inj H
          have p116 : 0 ≤ ((ji8) : Int) := of_decide_eq_true (by first | (with_reducible assumption) | assumption)
          have q116 : (ji8) < (l1.length : Int) := of_decide_eq_true (by first | (with_reducible assumption) | assumption)
          obtain ⟨ad116, e116, hx116_0⟩ := Kd.at_int HR1.out (ji8) p116 q116
          cases e116
          replace p116 := eq_true p116
          replace q116 := eq_true q116
          go_enter Tryd.func125, Tryd.ntmps125
          go_wp2
          go_ret
          exact ⟨by first | rfl | (simp; done) | (simp only [← hji8, ← hji11, ← hji13] <;> (first | rfl | simp)) | (simp [*]; done) | (simp [wrap64]; done), by repeat (first | exact Drawn0.refl _ | apply Drawn0.step)⟩
        · rw [if_neg c12] at H
          exact absurd H (by simp)
      · rw [if_neg c10] at H
        exact absurd H (by simp)
    · rw [if_neg c9] at H
      exact absurd H (by simp)

/-- THE ONE PURE STATEMENT of gojson_inObject: yours. -/
def gojson_inObject.Pure : Prop := ∀ (a0 : Int) (l1 : List Int) (a2 : Int), (Lit.int .u64 a0).wf = true → l1.length ≤ maxLen → l1.length * 8 ≤ 140737488351232 → (∀ x ∈ l1, (Lit.int .u64 x).wf = true) → (Lit.int .i64 a2).wf = true → gojson_inObject.f a0 l1 a2 = some true
theorem gojson_inObject.walk (P : gojson_inObject.Pure) (a0 : Int) (a1 : Option Addr) (len1 cap1 : Nat) (z1 : List Int) (a2 : Int) (w : World) (w0 : (Lit.int .u64 a0).wf = true) (w1 : (a1 = none ∧ len1 = 0 ∧ cap1 = 0 ∧ z1 = []) ∨ ∃ x, a1 = some x ∧ len1 ≤ cap1 ∧ cap1 ≤ maxLen ∧ z1.length = cap1 ∧ (∀ i, i < z1.length → w.cell? (x.add i) = some (.int .u64 (z1.getD i 0))) ∧ ∀ n ∈ z1, (Lit.int .u64 n).wf = true) (y1 : len1 * 8 ≤ 140737488351232) (w2 : (Lit.int .i64 a2).wf = true) :
    Calls Tryd.prog 125 #[.int .u64 a0, .slice a1 len1 cap1, .int .i64 a2] w fun e w' => e = .returned (.bool true) ∧ Below w.heap.size w w' := by
  obtain ⟨l1, rfl, hr1, hm1, hw1, hc1⟩ := ReadsInt.ofRowC w1
  have h := P a0 l1 a2 w0 hm1 y1 hw1 w2
  refine (gojson_inObject.calls a0 _ _ l1 a2 true w (Kd.C_of_reads (d := (0 : Int)) (h1 := fun _ => rfl) hr1) hc1 h).mono ?_
  rintro e w' ⟨rfl, hd⟩
  exact ⟨rfl, hd.below⟩

end Go.Proofs.YtfkagnpdapkaaaaDoor.QF
