-- Written by a program of this session (wip/tools/myprint.py) out of Lean's own print of the translation.
import Derived.Test.YtfkagnpdapkaaaaDoorQK0
namespace Go.Proofs.YtfkagnpdapkaaaaDoor.QK
open Go.RowKit Go.Proofs.YtfkagnpdapkaaaaDoorW.PrintWords Go.Proofs.YtfkagnpdapkaaaaDoorW.PrintLast Go.Proofs.YtfkagnpdapkaaaaDoorW.PrintMore
attribute [local go_sem] max2_int min2_int max_two min_two max_three min_three max_four min_four   -- for this text's walks alone
open Go.Proofs.YtfkagnpdapkaaaaDoor.Tab
set_option linter.unusedVariables false
set_option linter.unusedSimpArgs false

-- NOT PRINTED: function 103 (gojson_byteMask)

/-! ### gojson_gatherMask: function 102 -/
def gojson_gatherMask.f (a0 : Int) : Option (Int) := some ((IntKind.u64.wrap ((a0 / 128) * 72624976668147840)) / 72057594037927936)
set_option maxHeartbeats 8000000 in
set_option maxRecDepth 100000 in
theorem gojson_gatherMask.calls (a0 : Int) (r : Int) (w : World) (h : gojson_gatherMask.f a0 = some r) :
    Calls Tryd.prog 102 #[.int .u64 a0] w fun e w' => e = .returned (.int .u64 r) ∧ Drawn0 w w' := by
  have H : (some ((IntKind.u64.wrap ((a0 / 128) * 72624976668147840)) / 72057594037927936)) = some r := h
  clear h
  obtain rfl := Option.some.inj H
  go_enter Tryd.func102, Tryd.ntmps102
  go_wp2
  go_ret
  exact ⟨by first | rfl | (simp; done) | (simp [*]; done) | (simp [wrap64]; done), by repeat (first | exact Drawn0.refl _ | apply Drawn0.step)⟩

/-! ### gojson_le64: function 101 -/
def gojson_le64.f (l0 : List Int) : Option (Int) := if 7 < (l0.length : Int) then (if 0 < (l0.length : Int) then (if 1 < (l0.length : Int) then (if 2 < (l0.length : Int) then (if 3 < (l0.length : Int) then (if 4 < (l0.length : Int) then (if 5 < (l0.length : Int) then (if 6 < (l0.length : Int) then (some (Go.bits .or .u64 (Go.bits .or .u64 (Go.bits .or .u64 (Go.bits .or .u64 (Go.bits .or .u64 (Go.bits .or .u64 (Go.bits .or .u64 (IntKind.u64.wrap (rd l0 0)) (IntKind.u64.wrap ((IntKind.u64.wrap (rd l0 1)) * 256))) (IntKind.u64.wrap ((IntKind.u64.wrap (rd l0 2)) * 65536))) (IntKind.u64.wrap ((IntKind.u64.wrap (rd l0 3)) * 16777216))) (IntKind.u64.wrap ((IntKind.u64.wrap (rd l0 4)) * 4294967296))) (IntKind.u64.wrap ((IntKind.u64.wrap (rd l0 5)) * 1099511627776))) (IntKind.u64.wrap ((IntKind.u64.wrap (rd l0 6)) * 281474976710656))) (IntKind.u64.wrap ((IntKind.u64.wrap (rd l0 7)) * 72057594037927936)))) else (none)) else (none)) else (none)) else (none)) else (none)) else (none)) else (none)) else (none)
set_option maxHeartbeats 8000000 in
set_option maxRecDepth 100000 in
theorem gojson_le64.calls (A0 : Option Addr) (c0 : Nat) (l0 : List Int) (r : Int) (w : World) (hr0 : Kd.C (Kd.int .u8) w A0 l0.length l0) (hc0 : l0.length ≤ c0) (h : gojson_le64.f l0 = some r) :
    Calls Tryd.prog 101 #[.slice A0 l0.length c0] w fun e w' => e = .returned (.int .u64 r) ∧ Drawn0 w w' := by
  have HR0 := Aside0.mk hr0
  have HC0 := Aside0.mk hc0
  clear hr0 hc0
  have H : (if 7 < (l0.length : Int) then (if 0 < (l0.length : Int) then (if 1 < (l0.length : Int) then (if 2 < (l0.length : Int) then (if 3 < (l0.length : Int) then (if 4 < (l0.length : Int) then (if 5 < (l0.length : Int) then (if 6 < (l0.length : Int) then (some (Go.bits .or .u64 (Go.bits .or .u64 (Go.bits .or .u64 (Go.bits .or .u64 (Go.bits .or .u64 (Go.bits .or .u64 (Go.bits .or .u64 (IntKind.u64.wrap (rd l0 0)) (IntKind.u64.wrap ((IntKind.u64.wrap (rd l0 1)) * 256))) (IntKind.u64.wrap ((IntKind.u64.wrap (rd l0 2)) * 65536))) (IntKind.u64.wrap ((IntKind.u64.wrap (rd l0 3)) * 16777216))) (IntKind.u64.wrap ((IntKind.u64.wrap (rd l0 4)) * 4294967296))) (IntKind.u64.wrap ((IntKind.u64.wrap (rd l0 5)) * 1099511627776))) (IntKind.u64.wrap ((IntKind.u64.wrap (rd l0 6)) * 281474976710656))) (IntKind.u64.wrap ((IntKind.u64.wrap (rd l0 7)) * 72057594037927936)))) else (none)) else (none)) else (none)) else (none)) else (none)) else (none)) else (none)) else (none)) = some r := h
  clear h
  by_cases c2 : 7 < (l0.length : Int)
  · rw [if_pos c2] at H
    have c2b0 : decide (7 < (l0.length : Int)) = true := decide_eq_true c2
    have c2b1 : decide (7 < l0.length) = true := decide_eq_true (by omega)
    clear c2
    by_cases c3 : 0 < (l0.length : Int)
    · rw [if_pos c3] at H
      have c3b0 : decide (0 < (l0.length : Int)) = true := decide_eq_true c3
      have c3b1 : decide (0 < l0.length) = true := decide_eq_true (by omega)
      clear c3
      by_cases c4 : 1 < (l0.length : Int)
      · rw [if_pos c4] at H
        have c4b0 : decide (1 < (l0.length : Int)) = true := decide_eq_true c4
        have c4b1 : decide (1 < l0.length) = true := decide_eq_true (by omega)
        clear c4
        by_cases c5 : 2 < (l0.length : Int)
        · rw [if_pos c5] at H
          have c5b0 : decide (2 < (l0.length : Int)) = true := decide_eq_true c5
          have c5b1 : decide (2 < l0.length) = true := decide_eq_true (by omega)
          clear c5
          by_cases c6 : 3 < (l0.length : Int)
          · rw [if_pos c6] at H
            have c6b0 : decide (3 < (l0.length : Int)) = true := decide_eq_true c6
            have c6b1 : decide (3 < l0.length) = true := decide_eq_true (by omega)
            clear c6
            by_cases c7 : 4 < (l0.length : Int)
            · rw [if_pos c7] at H
              have c7b0 : decide (4 < (l0.length : Int)) = true := decide_eq_true c7
              have c7b1 : decide (4 < l0.length) = true := decide_eq_true (by omega)
              clear c7
              by_cases c8 : 5 < (l0.length : Int)
              · rw [if_pos c8] at H
                have c8b0 : decide (5 < (l0.length : Int)) = true := decide_eq_true c8
                have c8b1 : decide (5 < l0.length) = true := decide_eq_true (by omega)
                clear c8
                by_cases c9 : 6 < (l0.length : Int)
                · rw [if_pos c9] at H
                  have c9b0 : decide (6 < (l0.length : Int)) = true := decide_eq_true c9
                  have c9b1 : decide (6 < l0.length) = true := decide_eq_true (by omega)
                  clear c9
                  obtain rfl := Option.some.inj H
                  have p101 : 0 ≤ (7 : Int) := (by omega)
                  have q101 : 7 < (l0.length : Int) := of_decide_eq_true (by first | (with_reducible assumption) | assumption)
                  obtain ⟨ad101, e101, hx101_0⟩ := Kd.at_int HR0.out 7 p101 q101
                  cases e101
                  (try simp only [show (7 : Int).toNat = 7 from rfl, Nat.reduceMul, Nat.reduceEqDiff, Go.Addr.add, ↓reduceIte] at hx101_0)
                  have qi101 : (7 < l0.length) = True := eq_true (by omega)
                  (try rw [show ((7 : Int)).toNat = 7 from rfl] at hx101_0)
                  replace p101 := eq_true p101
                  replace q101 := eq_true q101
                  have p102 : 0 ≤ (0 : Int) := (by omega)
                  have q102 : 0 < (l0.length : Int) := of_decide_eq_true (by first | (with_reducible assumption) | assumption)
                  obtain ⟨ad102, e102, hx102_0⟩ := Kd.at_int HR0.out 0 p102 q102
                  obtain rfl : ad101 = ad102 := (by injection e102)
                  have qi102 : (0 < l0.length) = True := eq_true (by omega)
                  (try rw [show ((0 : Int)).toNat = 0 from rfl] at hx102_0)
                  (try rw [Addr.add_zero'] at hx102_0)
                  replace p102 := eq_true p102
                  replace q102 := eq_true q102
                  have p103 : 0 ≤ (1 : Int) := (by omega)
                  have q103 : 1 < (l0.length : Int) := of_decide_eq_true (by first | (with_reducible assumption) | assumption)
                  obtain ⟨ad103, e103, hx103_0⟩ := Kd.at_int HR0.out 1 p103 q103
                  obtain rfl : ad101 = ad103 := (by injection e103)
                  (try simp only [show (1 : Int).toNat = 1 from rfl, Nat.reduceMul, Nat.reduceEqDiff, Go.Addr.add, ↓reduceIte] at hx103_0)
                  have qi103 : (1 < l0.length) = True := eq_true (by omega)
                  (try rw [show ((1 : Int)).toNat = 1 from rfl] at hx103_0)
                  replace p103 := eq_true p103
                  replace q103 := eq_true q103
                  have p104 : 0 ≤ (2 : Int) := (by omega)
                  have q104 : 2 < (l0.length : Int) := of_decide_eq_true (by first | (with_reducible assumption) | assumption)
                  obtain ⟨ad104, e104, hx104_0⟩ := Kd.at_int HR0.out 2 p104 q104
                  obtain rfl : ad101 = ad104 := (by injection e104)
                  (try simp only [show (2 : Int).toNat = 2 from rfl, Nat.reduceMul, Nat.reduceEqDiff, Go.Addr.add, ↓reduceIte] at hx104_0)
                  have qi104 : (2 < l0.length) = True := eq_true (by omega)
                  (try rw [show ((2 : Int)).toNat = 2 from rfl] at hx104_0)
                  replace p104 := eq_true p104
                  replace q104 := eq_true q104
                  have p105 : 0 ≤ (3 : Int) := (by omega)
                  have q105 : 3 < (l0.length : Int) := of_decide_eq_true (by first | (with_reducible assumption) | assumption)
                  obtain ⟨ad105, e105, hx105_0⟩ := Kd.at_int HR0.out 3 p105 q105
                  obtain rfl : ad101 = ad105 := (by injection e105)
                  (try simp only [show (3 : Int).toNat = 3 from rfl, Nat.reduceMul, Nat.reduceEqDiff, Go.Addr.add, ↓reduceIte] at hx105_0)
                  have qi105 : (3 < l0.length) = True := eq_true (by omega)
                  (try rw [show ((3 : Int)).toNat = 3 from rfl] at hx105_0)
                  replace p105 := eq_true p105
                  replace q105 := eq_true q105
                  have p106 : 0 ≤ (4 : Int) := (by omega)
                  have q106 : 4 < (l0.length : Int) := of_decide_eq_true (by first | (with_reducible assumption) | assumption)
                  obtain ⟨ad106, e106, hx106_0⟩ := Kd.at_int HR0.out 4 p106 q106
                  obtain rfl : ad101 = ad106 := (by injection e106)
                  (try simp only [show (4 : Int).toNat = 4 from rfl, Nat.reduceMul, Nat.reduceEqDiff, Go.Addr.add, ↓reduceIte] at hx106_0)
                  have qi106 : (4 < l0.length) = True := eq_true (by omega)
                  (try rw [show ((4 : Int)).toNat = 4 from rfl] at hx106_0)
                  replace p106 := eq_true p106
                  replace q106 := eq_true q106
                  have p107 : 0 ≤ (5 : Int) := (by omega)
                  have q107 : 5 < (l0.length : Int) := of_decide_eq_true (by first | (with_reducible assumption) | assumption)
                  obtain ⟨ad107, e107, hx107_0⟩ := Kd.at_int HR0.out 5 p107 q107
                  obtain rfl : ad101 = ad107 := (by injection e107)
                  (try simp only [show (5 : Int).toNat = 5 from rfl, Nat.reduceMul, Nat.reduceEqDiff, Go.Addr.add, ↓reduceIte] at hx107_0)
                  have qi107 : (5 < l0.length) = True := eq_true (by omega)
                  (try rw [show ((5 : Int)).toNat = 5 from rfl] at hx107_0)
                  replace p107 := eq_true p107
                  replace q107 := eq_true q107
                  have p108 : 0 ≤ (6 : Int) := (by omega)
                  have q108 : 6 < (l0.length : Int) := of_decide_eq_true (by first | (with_reducible assumption) | assumption)
                  obtain ⟨ad108, e108, hx108_0⟩ := Kd.at_int HR0.out 6 p108 q108
                  obtain rfl : ad101 = ad108 := (by injection e108)
                  (try simp only [show (6 : Int).toNat = 6 from rfl, Nat.reduceMul, Nat.reduceEqDiff, Go.Addr.add, ↓reduceIte] at hx108_0)
                  have qi108 : (6 < l0.length) = True := eq_true (by omega)
                  (try rw [show ((6 : Int)).toNat = 6 from rfl] at hx108_0)
                  replace p108 := eq_true p108
                  replace q108 := eq_true q108
                  have p109 : 0 ≤ (7 : Int) := (by omega)
                  have q109 : 7 < (l0.length : Int) := of_decide_eq_true (by first | (with_reducible assumption) | assumption)
                  obtain ⟨ad109, e109, hx109_0⟩ := Kd.at_int HR0.out 7 p109 q109
                  obtain rfl : ad101 = ad109 := (by injection e109)
                  (try simp only [show (7 : Int).toNat = 7 from rfl, Nat.reduceMul, Nat.reduceEqDiff, Go.Addr.add, ↓reduceIte] at hx109_0)
                  have qi109 : (7 < l0.length) = True := eq_true (by omega)
                  (try rw [show ((7 : Int)).toNat = 7 from rfl] at hx109_0)
                  replace p109 := eq_true p109
                  replace q109 := eq_true q109
                  go_enter Tryd.func101, Tryd.ntmps101
                  go_wp2
                  repeat (go_quiet (fail); try go_wp2)
                  go_ret
                  exact ⟨by first | rfl | (simp; done) | (simp [*]; done) | (simp [wrap64]; done), by repeat (first | exact Drawn0.refl _ | apply Drawn0.step)⟩
                · rw [if_neg c9] at H
                  exact absurd H (by simp)
              · rw [if_neg c8] at H
                exact absurd H (by simp)
            · rw [if_neg c7] at H
              exact absurd H (by simp)
          · rw [if_neg c6] at H
            exact absurd H (by simp)
        · rw [if_neg c5] at H
          exact absurd H (by simp)
      · rw [if_neg c4] at H
        exact absurd H (by simp)
    · rw [if_neg c3] at H
      exact absurd H (by simp)
  · rw [if_neg c2] at H
    exact absurd H (by simp)

end Go.Proofs.YtfkagnpdapkaaaaDoor.QK
