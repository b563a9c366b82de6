-- Written by a program of this session (wip/tools/myprint.py) out of Lean's own print of the translation.
import Derived.Test.YtfkagnpdapkaaaaDoorQF0
namespace Go.Proofs.YtfkagnpdapkaaaaDoor.QF
open Go.RowKit Go.Proofs.YtfkagnpdapkaaaaDoorW.PrintWords Go.Proofs.YtfkagnpdapkaaaaDoorW.PrintLast Go.Proofs.YtfkagnpdapkaaaaDoorW.PrintMore
attribute [local go_sem] max2_int min2_int max_two min_two max_three min_three max_four min_four   -- for this text's walks alone
open Go.Proofs.YtfkagnpdapkaaaaDoor.Tab
set_option linter.unusedVariables false
set_option linter.unusedSimpArgs false

/-! ### gojson_validEndNumberChar: function 139 -/
def gojson_validEndNumberChar.f (a0 : Int) : Option (Bool) := if a0 = 0 then (some true) else (if a0 = 32 then (some true) else (if a0 = 9 then (some true) else (if a0 = 13 then (some true) else (if a0 = 10 then (some true) else (if a0 = 44 then (some true) else (if a0 = 58 then (some true) else (if a0 = 125 then (some true) else (if a0 = 93 then (some true) else (some false)))))))))
set_option maxHeartbeats 8000000 in
set_option maxRecDepth 100000 in
theorem gojson_validEndNumberChar.calls (a0 : Int) (r : Bool) (w : World) (h : gojson_validEndNumberChar.f a0 = some r) :
    Calls Tryd.prog 139 #[.int .u8 a0] w fun e w' => e = .returned (.bool r) ∧ Drawn0 w w' := by
  have H : (if a0 = 0 then (some true) else (if a0 = 32 then (some true) else (if a0 = 9 then (some true) else (if a0 = 13 then (some true) else (if a0 = 10 then (some true) else (if a0 = 44 then (some true) else (if a0 = 58 then (some true) else (if a0 = 125 then (some true) else (if a0 = 93 then (some true) else (some false)))))))))) = some r := h
  clear h
  by_cases c2 : a0 = 0
  · rw [if_pos c2] at H
    have c2b0 : (a0 == 0) = true := beq_iff_eq.mpr c2
    have c2b1 : (a0 != 0) = false := bne_eq_false_iff_eq.mpr c2
    clear c2
    obtain rfl := Option.some.inj H
    go_enter Tryd.func139, Tryd.ntmps139
    go_wp2
    go_ret
    exact ⟨by first | rfl | (simp; done) | (simp [*]; done) | (simp [wrap64]; done), by repeat (first | exact Drawn0.refl _ | apply Drawn0.step)⟩
  · rw [if_neg c2] at H
    have c2b0 : (a0 == 0) = false := beq_eq_false_iff_ne.mpr c2
    have c2b1 : (a0 != 0) = true := bne_iff_ne.mpr c2
    by_cases c3 : a0 = 32
    · rw [if_pos c3] at H
      have c3b0 : (a0 == 32) = true := beq_iff_eq.mpr c3
      have c3b1 : (a0 != 32) = false := bne_eq_false_iff_eq.mpr c3
      clear c3
      obtain rfl := Option.some.inj H
      go_enter Tryd.func139, Tryd.ntmps139
      go_wp2
      go_ret
      exact ⟨by first | rfl | (simp; done) | (simp [*]; done) | (simp [wrap64]; done), by repeat (first | exact Drawn0.refl _ | apply Drawn0.step)⟩
    · rw [if_neg c3] at H
      have c3b0 : (a0 == 32) = false := beq_eq_false_iff_ne.mpr c3
      have c3b1 : (a0 != 32) = true := bne_iff_ne.mpr c3
      by_cases c4 : a0 = 9
      · rw [if_pos c4] at H
        have c4b0 : (a0 == 9) = true := beq_iff_eq.mpr c4
        have c4b1 : (a0 != 9) = false := bne_eq_false_iff_eq.mpr c4
        clear c4
        obtain rfl := Option.some.inj H
        go_enter Tryd.func139, Tryd.ntmps139
        go_wp2
        go_ret
        exact ⟨by first | rfl | (simp; done) | (simp [*]; done) | (simp [wrap64]; done), by repeat (first | exact Drawn0.refl _ | apply Drawn0.step)⟩
      · rw [if_neg c4] at H
        have c4b0 : (a0 == 9) = false := beq_eq_false_iff_ne.mpr c4
        have c4b1 : (a0 != 9) = true := bne_iff_ne.mpr c4
        by_cases c5 : a0 = 13
        · rw [if_pos c5] at H
          have c5b0 : (a0 == 13) = true := beq_iff_eq.mpr c5
          have c5b1 : (a0 != 13) = false := bne_eq_false_iff_eq.mpr c5
          clear c5
          obtain rfl := Option.some.inj H
          go_enter Tryd.func139, Tryd.ntmps139
          go_wp2
          go_ret
          exact ⟨by first | rfl | (simp; done) | (simp [*]; done) | (simp [wrap64]; done), by repeat (first | exact Drawn0.refl _ | apply Drawn0.step)⟩
        · rw [if_neg c5] at H
          have c5b0 : (a0 == 13) = false := beq_eq_false_iff_ne.mpr c5
          have c5b1 : (a0 != 13) = true := bne_iff_ne.mpr c5
          by_cases c6 : a0 = 10
          · rw [if_pos c6] at H
            have c6b0 : (a0 == 10) = true := beq_iff_eq.mpr c6
            have c6b1 : (a0 != 10) = false := bne_eq_false_iff_eq.mpr c6
            clear c6
            obtain rfl := Option.some.inj H
            go_enter Tryd.func139, Tryd.ntmps139
            go_wp2
            go_ret
            exact ⟨by first | rfl | (simp; done) | (simp [*]; done) | (simp [wrap64]; done), by repeat (first | exact Drawn0.refl _ | apply Drawn0.step)⟩
          · rw [if_neg c6] at H
            have c6b0 : (a0 == 10) = false := beq_eq_false_iff_ne.mpr c6
            have c6b1 : (a0 != 10) = true := bne_iff_ne.mpr c6
            by_cases c7 : a0 = 44
            · rw [if_pos c7] at H
              have c7b0 : (a0 == 44) = true := beq_iff_eq.mpr c7
              have c7b1 : (a0 != 44) = false := bne_eq_false_iff_eq.mpr c7
              clear c7
              obtain rfl := Option.some.inj H
              go_enter Tryd.func139, Tryd.ntmps139
              go_wp2
              go_ret
              exact ⟨by first | rfl | (simp; done) | (simp [*]; done) | (simp [wrap64]; done), by repeat (first | exact Drawn0.refl _ | apply Drawn0.step)⟩
            · rw [if_neg c7] at H
              have c7b0 : (a0 == 44) = false := beq_eq_false_iff_ne.mpr c7
              have c7b1 : (a0 != 44) = true := bne_iff_ne.mpr c7
              by_cases c8 : a0 = 58
              · rw [if_pos c8] at H
                have c8b0 : (a0 == 58) = true := beq_iff_eq.mpr c8
                have c8b1 : (a0 != 58) = false := bne_eq_false_iff_eq.mpr c8
                clear c8
                obtain rfl := Option.some.inj H
                go_enter Tryd.func139, Tryd.ntmps139
                go_wp2
                go_ret
                exact ⟨by first | rfl | (simp; done) | (simp [*]; done) | (simp [wrap64]; done), by repeat (first | exact Drawn0.refl _ | apply Drawn0.step)⟩
              · rw [if_neg c8] at H
                have c8b0 : (a0 == 58) = false := beq_eq_false_iff_ne.mpr c8
                have c8b1 : (a0 != 58) = true := bne_iff_ne.mpr c8
                by_cases c9 : a0 = 125
                · rw [if_pos c9] at H
                  have c9b0 : (a0 == 125) = true := beq_iff_eq.mpr c9
                  have c9b1 : (a0 != 125) = false := bne_eq_false_iff_eq.mpr c9
                  clear c9
                  obtain rfl := Option.some.inj H
                  go_enter Tryd.func139, Tryd.ntmps139
                  go_wp2
                  go_ret
                  exact ⟨by first | rfl | (simp; done) | (simp [*]; done) | (simp [wrap64]; done), by repeat (first | exact Drawn0.refl _ | apply Drawn0.step)⟩
                · rw [if_neg c9] at H
                  have c9b0 : (a0 == 125) = false := beq_eq_false_iff_ne.mpr c9
                  have c9b1 : (a0 != 125) = true := bne_iff_ne.mpr c9
                  by_cases c10 : a0 = 93
                  · rw [if_pos c10] at H
                    have c10b0 : (a0 == 93) = true := beq_iff_eq.mpr c10
                    have c10b1 : (a0 != 93) = false := bne_eq_false_iff_eq.mpr c10
                    clear c10
                    obtain rfl := Option.some.inj H
                    go_enter Tryd.func139, Tryd.ntmps139
                    go_wp2
                    go_ret
                    exact ⟨by first | rfl | (simp; done) | (simp [*]; done) | (simp [wrap64]; done), by repeat (first | exact Drawn0.refl _ | apply Drawn0.step)⟩
                  · rw [if_neg c10] at H
                    have c10b0 : (a0 == 93) = false := beq_eq_false_iff_ne.mpr c10
                    have c10b1 : (a0 != 93) = true := bne_iff_ne.mpr c10
                    obtain rfl := Option.some.inj H
                    go_enter Tryd.func139, Tryd.ntmps139
                    go_wp2
                    go_ret
                    exact ⟨by first | rfl | (simp; done) | (simp [*]; done) | (simp [wrap64]; done), by repeat (first | exact Drawn0.refl _ | apply Drawn0.step)⟩

/-- THE ONE PURE STATEMENT of gojson_validEndNumberChar: yours. -/
def gojson_validEndNumberChar.Pure : Prop := ∀ (a0 : Int), (Lit.int .u8 a0).wf = true → gojson_validEndNumberChar.f a0 = some true
theorem gojson_validEndNumberChar.walk (P : gojson_validEndNumberChar.Pure) (a0 : Int) (w : World) (w0 : (Lit.int .u8 a0).wf = true) :
    Calls Tryd.prog 139 #[.int .u8 a0] w fun e w' => e = .returned (.bool true) ∧ Below w.heap.size w w' := by
  have h := P a0 w0
  refine (gojson_validEndNumberChar.calls a0 true w h).mono ?_
  rintro e w' ⟨rfl, hd⟩
  exact ⟨rfl, hd.below⟩

/-! ### gojsonnum_le64: function 158 -/
def gojsonnum_le64.f (l0 : List Int) : Option (Int) := if 7 < (l0.length : Int) then (if 0 < (l0.length : Int) then (if 1 < (l0.length : Int) then (if 2 < (l0.length : Int) then (if 3 < (l0.length : Int) then (if 4 < (l0.length : Int) then (if 5 < (l0.length : Int) then (if 6 < (l0.length : Int) then (some (Go.bits .or .u64 (Go.bits .or .u64 (Go.bits .or .u64 (Go.bits .or .u64 (Go.bits .or .u64 (Go.bits .or .u64 (Go.bits .or .u64 (IntKind.u64.wrap (rd l0 0)) (IntKind.u64.wrap ((IntKind.u64.wrap (rd l0 1)) * 256))) (IntKind.u64.wrap ((IntKind.u64.wrap (rd l0 2)) * 65536))) (IntKind.u64.wrap ((IntKind.u64.wrap (rd l0 3)) * 16777216))) (IntKind.u64.wrap ((IntKind.u64.wrap (rd l0 4)) * 4294967296))) (IntKind.u64.wrap ((IntKind.u64.wrap (rd l0 5)) * 1099511627776))) (IntKind.u64.wrap ((IntKind.u64.wrap (rd l0 6)) * 281474976710656))) (IntKind.u64.wrap ((IntKind.u64.wrap (rd l0 7)) * 72057594037927936)))) else (none)) else (none)) else (none)) else (none)) else (none)) else (none)) else (none)) else (none)
set_option maxHeartbeats 8000000 in
set_option maxRecDepth 100000 in
theorem gojsonnum_le64.calls (A0 : Option Addr) (c0 : Nat) (l0 : List Int) (r : Int) (w : World) (hr0 : Kd.C (Kd.int .u8) w A0 l0.length l0) (hc0 : l0.length ≤ c0) (h : gojsonnum_le64.f l0 = some r) :
    Calls Tryd.prog 158 #[.slice A0 l0.length c0] w fun e w' => e = .returned (.int .u64 r) ∧ Drawn0 w w' := by
  have HR0 := Aside0.mk hr0
  have HC0 := Aside0.mk hc0
  clear hr0 hc0
  have H : (if 7 < (l0.length : Int) then (if 0 < (l0.length : Int) then (if 1 < (l0.length : Int) then (if 2 < (l0.length : Int) then (if 3 < (l0.length : Int) then (if 4 < (l0.length : Int) then (if 5 < (l0.length : Int) then (if 6 < (l0.length : Int) then (some (Go.bits .or .u64 (Go.bits .or .u64 (Go.bits .or .u64 (Go.bits .or .u64 (Go.bits .or .u64 (Go.bits .or .u64 (Go.bits .or .u64 (IntKind.u64.wrap (rd l0 0)) (IntKind.u64.wrap ((IntKind.u64.wrap (rd l0 1)) * 256))) (IntKind.u64.wrap ((IntKind.u64.wrap (rd l0 2)) * 65536))) (IntKind.u64.wrap ((IntKind.u64.wrap (rd l0 3)) * 16777216))) (IntKind.u64.wrap ((IntKind.u64.wrap (rd l0 4)) * 4294967296))) (IntKind.u64.wrap ((IntKind.u64.wrap (rd l0 5)) * 1099511627776))) (IntKind.u64.wrap ((IntKind.u64.wrap (rd l0 6)) * 281474976710656))) (IntKind.u64.wrap ((IntKind.u64.wrap (rd l0 7)) * 72057594037927936)))) else (none)) else (none)) else (none)) else (none)) else (none)) else (none)) else (none)) else (none)) = some r := h
  clear h
  by_cases c2 : 7 < (l0.length : Int)
  · rw [if_pos c2] at H
    have c2b0 : decide (7 < (l0.length : Int)) = true := decide_eq_true c2
    have c2b1 : decide (7 < l0.length) = true := decide_eq_true (by omega)
    clear c2
    by_cases c3 : 0 < (l0.length : Int)
    · rw [if_pos c3] at H
      have c3b0 : decide (0 < (l0.length : Int)) = true := decide_eq_true c3
      have c3b1 : decide (0 < l0.length) = true := decide_eq_true (by omega)
      clear c3
      by_cases c4 : 1 < (l0.length : Int)
      · rw [if_pos c4] at H
        have c4b0 : decide (1 < (l0.length : Int)) = true := decide_eq_true c4
        have c4b1 : decide (1 < l0.length) = true := decide_eq_true (by omega)
        clear c4
        by_cases c5 : 2 < (l0.length : Int)
        · rw [if_pos c5] at H
          have c5b0 : decide (2 < (l0.length : Int)) = true := decide_eq_true c5
          have c5b1 : decide (2 < l0.length) = true := decide_eq_true (by omega)
          clear c5
          by_cases c6 : 3 < (l0.length : Int)
          · rw [if_pos c6] at H
            have c6b0 : decide (3 < (l0.length : Int)) = true := decide_eq_true c6
            have c6b1 : decide (3 < l0.length) = true := decide_eq_true (by omega)
            clear c6
            by_cases c7 : 4 < (l0.length : Int)
            · rw [if_pos c7] at H
              have c7b0 : decide (4 < (l0.length : Int)) = true := decide_eq_true c7
              have c7b1 : decide (4 < l0.length) = true := decide_eq_true (by omega)
              clear c7
              by_cases c8 : 5 < (l0.length : Int)
              · rw [if_pos c8] at H
                have c8b0 : decide (5 < (l0.length : Int)) = true := decide_eq_true c8
                have c8b1 : decide (5 < l0.length) = true := decide_eq_true (by omega)
                clear c8
                by_cases c9 : 6 < (l0.length : Int)
                · rw [if_pos c9] at H
                  have c9b0 : decide (6 < (l0.length : Int)) = true := decide_eq_true c9
                  have c9b1 : decide (6 < l0.length) = true := decide_eq_true (by omega)
                  clear c9
                  obtain rfl := Option.some.inj H
                  have p121 : 0 ≤ (7 : Int) := (by omega)
                  have q121 : 7 < (l0.length : Int) := of_decide_eq_true (by first | (with_reducible assumption) | assumption)
                  obtain ⟨ad121, e121, hx121_0⟩ := Kd.at_int HR0.out 7 p121 q121
                  cases e121
                  (try simp only [show (7 : Int).toNat = 7 from rfl, Nat.reduceMul, Nat.reduceEqDiff, Go.Addr.add, ↓reduceIte] at hx121_0)
                  have qi121 : (7 < l0.length) = True := eq_true (by omega)
                  (try rw [show ((7 : Int)).toNat = 7 from rfl] at hx121_0)
                  replace p121 := eq_true p121
                  replace q121 := eq_true q121
                  have p122 : 0 ≤ (0 : Int) := (by omega)
                  have q122 : 0 < (l0.length : Int) := of_decide_eq_true (by first | (with_reducible assumption) | assumption)
                  obtain ⟨ad122, e122, hx122_0⟩ := Kd.at_int HR0.out 0 p122 q122
                  obtain rfl : ad121 = ad122 := (by injection e122)
                  have qi122 : (0 < l0.length) = True := eq_true (by omega)
                  (try rw [show ((0 : Int)).toNat = 0 from rfl] at hx122_0)
                  (try rw [Addr.add_zero'] at hx122_0)
                  replace p122 := eq_true p122
                  replace q122 := eq_true q122
                  have p123 : 0 ≤ (1 : Int) := (by omega)
                  have q123 : 1 < (l0.length : Int) := of_decide_eq_true (by first | (with_reducible assumption) | assumption)
                  obtain ⟨ad123, e123, hx123_0⟩ := Kd.at_int HR0.out 1 p123 q123
                  obtain rfl : ad121 = ad123 := (by injection e123)
                  (try simp only [show (1 : Int).toNat = 1 from rfl, Nat.reduceMul, Nat.reduceEqDiff, Go.Addr.add, ↓reduceIte] at hx123_0)
                  have qi123 : (1 < l0.length) = True := eq_true (by omega)
                  (try rw [show ((1 : Int)).toNat = 1 from rfl] at hx123_0)
                  replace p123 := eq_true p123
                  replace q123 := eq_true q123
                  have p124 : 0 ≤ (2 : Int) := (by omega)
                  have q124 : 2 < (l0.length : Int) := of_decide_eq_true (by first | (with_reducible assumption) | assumption)
                  obtain ⟨ad124, e124, hx124_0⟩ := Kd.at_int HR0.out 2 p124 q124
                  obtain rfl : ad121 = ad124 := (by injection e124)
                  (try simp only [show (2 : Int).toNat = 2 from rfl, Nat.reduceMul, Nat.reduceEqDiff, Go.Addr.add, ↓reduceIte] at hx124_0)
                  have qi124 : (2 < l0.length) = True := eq_true (by omega)
                  (try rw [show ((2 : Int)).toNat = 2 from rfl] at hx124_0)
                  replace p124 := eq_true p124
                  replace q124 := eq_true q124
                  have p125 : 0 ≤ (3 : Int) := (by omega)
                  have q125 : 3 < (l0.length : Int) := of_decide_eq_true (by first | (with_reducible assumption) | assumption)
                  obtain ⟨ad125, e125, hx125_0⟩ := Kd.at_int HR0.out 3 p125 q125
                  obtain rfl : ad121 = ad125 := (by injection e125)
                  (try simp only [show (3 : Int).toNat = 3 from rfl, Nat.reduceMul, Nat.reduceEqDiff, Go.Addr.add, ↓reduceIte] at hx125_0)
                  have qi125 : (3 < l0.length) = True := eq_true (by omega)
                  (try rw [show ((3 : Int)).toNat = 3 from rfl] at hx125_0)
                  replace p125 := eq_true p125
                  replace q125 := eq_true q125
                  have p126 : 0 ≤ (4 : Int) := (by omega)
                  have q126 : 4 < (l0.length : Int) := of_decide_eq_true (by first | (with_reducible assumption) | assumption)
                  obtain ⟨ad126, e126, hx126_0⟩ := Kd.at_int HR0.out 4 p126 q126
                  obtain rfl : ad121 = ad126 := (by injection e126)
                  (try simp only [show (4 : Int).toNat = 4 from rfl, Nat.reduceMul, Nat.reduceEqDiff, Go.Addr.add, ↓reduceIte] at hx126_0)
                  have qi126 : (4 < l0.length) = True := eq_true (by omega)
                  (try rw [show ((4 : Int)).toNat = 4 from rfl] at hx126_0)
                  replace p126 := eq_true p126
                  replace q126 := eq_true q126
                  have p127 : 0 ≤ (5 : Int) := (by omega)
                  have q127 : 5 < (l0.length : Int) := of_decide_eq_true (by first | (with_reducible assumption) | assumption)
                  obtain ⟨ad127, e127, hx127_0⟩ := Kd.at_int HR0.out 5 p127 q127
                  obtain rfl : ad121 = ad127 := (by injection e127)
                  (try simp only [show (5 : Int).toNat = 5 from rfl, Nat.reduceMul, Nat.reduceEqDiff, Go.Addr.add, ↓reduceIte] at hx127_0)
                  have qi127 : (5 < l0.length) = True := eq_true (by omega)
                  (try rw [show ((5 : Int)).toNat = 5 from rfl] at hx127_0)
                  replace p127 := eq_true p127
                  replace q127 := eq_true q127
                  have p128 : 0 ≤ (6 : Int) := (by omega)
                  have q128 : 6 < (l0.length : Int) := of_decide_eq_true (by first | (with_reducible assumption) | assumption)
                  obtain ⟨ad128, e128, hx128_0⟩ := Kd.at_int HR0.out 6 p128 q128
                  obtain rfl : ad121 = ad128 := (by injection e128)
                  (try simp only [show (6 : Int).toNat = 6 from rfl, Nat.reduceMul, Nat.reduceEqDiff, Go.Addr.add, ↓reduceIte] at hx128_0)
                  have qi128 : (6 < l0.length) = True := eq_true (by omega)
                  (try rw [show ((6 : Int)).toNat = 6 from rfl] at hx128_0)
                  replace p128 := eq_true p128
                  replace q128 := eq_true q128
                  have p129 : 0 ≤ (7 : Int) := (by omega)
                  have q129 : 7 < (l0.length : Int) := of_decide_eq_true (by first | (with_reducible assumption) | assumption)
                  obtain ⟨ad129, e129, hx129_0⟩ := Kd.at_int HR0.out 7 p129 q129
                  obtain rfl : ad121 = ad129 := (by injection e129)
                  (try simp only [show (7 : Int).toNat = 7 from rfl, Nat.reduceMul, Nat.reduceEqDiff, Go.Addr.add, ↓reduceIte] at hx129_0)
                  have qi129 : (7 < l0.length) = True := eq_true (by omega)
                  (try rw [show ((7 : Int)).toNat = 7 from rfl] at hx129_0)
                  replace p129 := eq_true p129
                  replace q129 := eq_true q129
                  go_enter Tryd.func158, Tryd.ntmps158
                  go_wp2
                  repeat (go_quiet (fail); try go_wp2)
                  go_ret
                  exact ⟨by first | rfl | (simp; done) | (simp [*]; done) | (simp [wrap64]; done), by repeat (first | exact Drawn0.refl _ | apply Drawn0.step)⟩
                · rw [if_neg c9] at H
                  exact absurd H (by simp)
              · rw [if_neg c8] at H
                exact absurd H (by simp)
            · rw [if_neg c7] at H
              exact absurd H (by simp)
          · rw [if_neg c6] at H
            exact absurd H (by simp)
        · rw [if_neg c5] at H
          exact absurd H (by simp)
      · rw [if_neg c4] at H
        exact absurd H (by simp)
    · rw [if_neg c3] at H
      exact absurd H (by simp)
  · rw [if_neg c2] at H
    exact absurd H (by simp)

/-! ### gojsonnum_ScanDigits: function 150 -/
mutual
def gojsonnum_ScanDigits.l0 : Nat → List Int → Int → Option (Int)
  | 0, _, _ => none
  | k + 1, x0, x1 => if (wrap64 (x1 + 8)) ≤ (x0.length : Int) then (if 0 ≤ x1 then (if x1 ≤ (x0.length : Int) then ((gojsonnum_le64.f (x0.drop (x1 : Int).toNat)).bind fun t131 => (if (Go.bits .and .u64 (Go.bits .or .u64 (IntKind.u64.wrap ((Go.bits .andNot .u64 (Go.bits .xor .u64 t131 3472328296227680304) 9259542123273814144) + 8536140394893047414)) (Go.bits .xor .u64 t131 3472328296227680304)) 9259542123273814144) = 0 then (gojsonnum_ScanDigits.l0 k x0 (wrap64 (x1 + 8))) else ((tz64.f (Go.bits .and .u64 (Go.bits .or .u64 (IntKind.u64.wrap ((Go.bits .andNot .u64 (Go.bits .xor .u64 t131 3472328296227680304) 9259542123273814144) + 8536140394893047414)) (Go.bits .xor .u64 t131 3472328296227680304)) 9259542123273814144)).bind fun t132 => (some (wrap64 (x1 + (wrap64 (Int.tdiv t132 8)))))))) else (none)) else (none)) else (gojsonnum_ScanDigits.l1 k x0 x1)
def gojsonnum_ScanDigits.l1 : Nat → List Int → Int → Option (Int)
  | 0, _, _ => none
  | k + 1, x0, x1 => if x1 < (x0.length : Int) then (if 0 ≤ x1 then (if 48 ≤ (rd x0 x1) then (if (rd x0 x1) ≤ 57 then (gojsonnum_ScanDigits.l1 k x0 (wrap64 (x1 + 1))) else (some x1)) else (some x1)) else (none)) else (some x1)
end
def gojsonnum_ScanDigits.f (k : Nat) (l0 : List Int) (a1 : Int) : Option (Int) := gojsonnum_ScanDigits.l0 k l0 a1
theorem gojsonnum_ScanDigits.mono_l : ∀ k, (∀ y0 y1, LeO (gojsonnum_ScanDigits.l0 k y0 y1) (gojsonnum_ScanDigits.l0 (k + 1) y0 y1)) ∧ (∀ y0 y1, LeO (gojsonnum_ScanDigits.l1 k y0 y1) (gojsonnum_ScanDigits.l1 (k + 1) y0 y1))
  | 0 => ⟨fun _ _ r h => by simp [gojsonnum_ScanDigits.l0] at h, fun _ _ r h => by simp [gojsonnum_ScanDigits.l1] at h⟩
  | k + 1 => by
    obtain ⟨ih0, ih1⟩ := gojsonnum_ScanDigits.mono_l k
    refine ⟨?_, ?_⟩
    · intro y0 y1
      unfold gojsonnum_ScanDigits.l0
      repeat' first
      | (with_reducible exact ih0 _ _)
      | (with_reducible exact ih1 _ _)
      | (with_reducible exact LeO.refl _)
      | (with_reducible exact LeO.none _)
      | (with_reducible refine LeO.ite ?_ ?_)
      | (with_reducible refine LeO.bind ?_ (fun _ => ?_))
      | exact ih0 _ _
      | exact ih1 _ _
      | exact LeO.none _
      | refine LeO.ite ?_ ?_
      | refine LeO.bind ?_ (fun _ => ?_)
    · intro y0 y1
      unfold gojsonnum_ScanDigits.l1
      repeat' first
      | (with_reducible exact ih0 _ _)
      | (with_reducible exact ih1 _ _)
      | (with_reducible exact LeO.refl _)
      | (with_reducible exact LeO.none _)
      | (with_reducible refine LeO.ite ?_ ?_)
      | (with_reducible refine LeO.bind ?_ (fun _ => ?_))
      | exact ih0 _ _
      | exact ih1 _ _
      | exact LeO.none _
      | refine LeO.ite ?_ ?_
      | refine LeO.bind ?_ (fun _ => ?_)
theorem gojsonnum_ScanDigits.mono : ∀ a0 a1 k, LeO (gojsonnum_ScanDigits.f k a0 a1) (gojsonnum_ScanDigits.f (k + 1) a0 a1) := by
  intro a0 a1 k
  obtain ⟨ih0, ih1⟩ := gojsonnum_ScanDigits.mono_l k
  unfold gojsonnum_ScanDigits.f
  repeat' first
      | (with_reducible exact ih0 _ _)
      | (with_reducible exact ih1 _ _)
      | (with_reducible exact LeO.refl _)
      | (with_reducible exact LeO.none _)
      | (with_reducible refine LeO.ite ?_ ?_)
      | (with_reducible refine LeO.bind ?_ (fun _ => ?_))
      | exact ih0 _ _
      | exact ih1 _ _
      | exact LeO.none _
      | refine LeO.ite ?_ ?_
      | refine LeO.bind ?_ (fun _ => ?_)
set_option maxHeartbeats 8000000 in
set_option maxRecDepth 100000 in
theorem gojsonnum_ScanDigits.calls (k : Nat) (A0 : Option Addr) (c0 : Nat) (l0 : List Int) (a1 : Int) (r : Int) (w : World) (hr0 : Kd.C (Kd.int .u8) w A0 l0.length l0) (hc0 : l0.length ≤ c0) (hG : Glob w) (h : gojsonnum_ScanDigits.f k l0 a1 = some r) :
    Calls Tryd.prog 150 #[.slice A0 l0.length c0, .int .i64 a1] w fun e w' => e = .returned (.int .i64 r) ∧ Drawn0 w w' := by
  have HG := Aside0.mk hG
  clear hG
  have HR0 := Aside0.mk hr0
  have HC0 := Aside0.mk hc0
  clear hr0 hc0
  have H : (gojsonnum_ScanDigits.l0 k l0 a1) = some r := h
  clear h
  have H' := Aside0.mk H
  clear H
  go_enter Tryd.func150, Tryd.ntmps150
  go_wp2
  go_loopg [1] k (fun kq v1 w' => ∃ (x1_1 : Int), v1 = .int .i64 x1_1 ∧ Aside0 (gojsonnum_ScanDigits.l0 kq l0 x1_1 = some r) ∧ Aside0 (kq ≤ k) ∧ Drawn0 w w')
  case atStart => exact ⟨(a1), (by first | rfl | (simp; done) | (simp [*]; done) | (simp [wrap64]; done)), H', ⟨Nat.le_refl _⟩, by repeat (first | exact Drawn0.refl _ | apply Drawn0.step)⟩
  case round =>
    clear H'
    try clear c1
    try clear p2
    obtain ⟨x1_1, rfl, HA, HK1, ⟨m1, rfl⟩⟩ := hrel
    cases gk with
    | zero => exact absurd HA.out (by simp [gojsonnum_ScanDigits.l0])
    | succ k1 =>
      have H := HA.out
      clear HA
      simp only [gojsonnum_ScanDigits.l0] at H
      by_cases c3 : (wrap64 (x1_1 + 8)) ≤ (l0.length : Int)
      · rw [if_pos c3] at H
        have c3b0 : decide ((wrap64 (x1_1 + 8)) ≤ (l0.length : Int)) = true := decide_eq_true c3
        clear c3
        by_cases c4 : 0 ≤ x1_1
        · rw [if_pos c4] at H
          have c4b0 := eq_true c4
          have c4b1 : decide (0 ≤ x1_1) = true := decide_eq_true c4
          clear c4
          by_cases c5 : x1_1 ≤ (l0.length : Int)
          · rw [if_pos c5] at H
            have c5b0 := eq_true c5
            have c5b1 : decide (x1_1 ≤ (l0.length : Int)) = true := decide_eq_true c5
            clear c5
            replace H := Option.bind_eq_some_iff.mp H
            obtain ⟨t131, A60, H⟩ := H
            replace H : (if (Go.bits .and .u64 (Go.bits .or .u64 (IntKind.u64.wrap ((Go.bits .andNot .u64 (Go.bits .xor .u64 t131 3472328296227680304) 9259542123273814144) + 8536140394893047414)) (Go.bits .xor .u64 t131 3472328296227680304)) 9259542123273814144) = 0 then (gojsonnum_ScanDigits.l0 k1 l0 (wrap64 (x1_1 + 8))) else ((tz64.f (Go.bits .and .u64 (Go.bits .or .u64 (IntKind.u64.wrap ((Go.bits .andNot .u64 (Go.bits .xor .u64 t131 3472328296227680304) 9259542123273814144) + 8536140394893047414)) (Go.bits .xor .u64 t131 3472328296227680304)) 9259542123273814144)).bind fun t132 => (some (wrap64 (x1_1 + (wrap64 (Int.tdiv t132 8))))))) = some r := H
            have A6 := Aside0.mk A60
            clear A60
            by_cases c7 : (Go.bits .and .u64 (Go.bits .or .u64 (IntKind.u64.wrap ((Go.bits .andNot .u64 (Go.bits .xor .u64 t131 3472328296227680304) 9259542123273814144) + 8536140394893047414)) (Go.bits .xor .u64 t131 3472328296227680304)) 9259542123273814144) = 0
            · rw [if_pos c7] at H
              have c7b0 : ((Go.bits .and .u64 (Go.bits .or .u64 (IntKind.u64.wrap ((Go.bits .andNot .u64 (Go.bits .xor .u64 t131 3472328296227680304) 9259542123273814144) + 8536140394893047414)) (Go.bits .xor .u64 t131 3472328296227680304)) 9259542123273814144) == 0) = true := beq_iff_eq.mpr c7
              have c7b1 : ((Go.bits .and .u64 (Go.bits .or .u64 (IntKind.u64.wrap ((Go.bits .andNot .u64 (Go.bits .xor .u64 t131 3472328296227680304) 9259542123273814144) + 8536140394893047414)) (Go.bits .xor .u64 t131 3472328296227680304)) 9259542123273814144) != 0) = false := bne_eq_false_iff_eq.mpr c7
              clear c7
              have H' := Aside0.mk H
              clear H
              obtain ⟨i08, hi08, _, hsz8, _⟩ := info_parts info5
              obtain ⟨A8, hcut8, hA8, hC8⟩ := print_drop_of (P := Tryd.prog) (Value.int .u8) 0 22 5 .i64 Tryd.underlying22 hi08 hsz8 A0 c0 l0 x1_1 (of_decide_eq_true (by first | (with_reducible assumption) | assumption)) (of_decide_eq_true (by first | (with_reducible assumption) | assumption)) HC0.out
              have HR130 := Aside0.mk (Kd.C_of_reads (h1 := fun _ => rfl) (hA8 _ (Kd.reads_of_C HR0.out)))
              have HC130 := Aside0.mk hC8
              clear hA8 hC8 hi08 hsz8
              go_wp2_with (first | ((with_reducible refine gate_callee (f := 158) rfl ?_); refine goesL_ (some 15) rfl rfl Tryd.func158 (by kernel_rfl) rfl #[.slice A8 (l0.drop (x1_1 : Int).toNat).length (c0 - x1_1.toNat)] rfl (by (try simp only [List.map_toArray, List.map_cons, List.map_nil]); first | done | (rw [show (l0.drop (x1_1 : Int).toNat).length = (l0.length - x1_1.toNat) from List.length_drop] <;> rfl) | rfl | (simp only [List.length_drop, List.length_take]; rfl)) ?_; (with_reducible refine (gojsonnum_le64.calls _ _ (l0.drop (x1_1 : Int).toNat) t131 _ ?side1 ?side2 A6.out).mono ?_); (case side1 => repeat (first | exact HR130.out | (with_reducible refine Kd.C_alloc ?_ _) | (with_reducible refine Kd.C_drewN ?_ _) | (with_reducible refine Kd.C_drew ?_))); (case side2 => exact HC130.out); rintro e w' ⟨rfl, ⟨nd, rfl⟩⟩; refine ⟨_, rfl, ?_⟩))
              go_roundg k1
              case measure => have := HK1.out; omega
              case rel => exact ⟨(wrap64 (x1_1 + 8)), (by first | rfl | (simp; done) | (simp [*]; done) | (simp [wrap64]; done)), H', ⟨by have := HK1.out; omega⟩, by repeat (first | exact Drawn0.refl _ | apply Drawn0.step)⟩
            · rw [if_neg c7] at H
              have c7b0 : ((Go.bits .and .u64 (Go.bits .or .u64 (IntKind.u64.wrap ((Go.bits .andNot .u64 (Go.bits .xor .u64 t131 3472328296227680304) 9259542123273814144) + 8536140394893047414)) (Go.bits .xor .u64 t131 3472328296227680304)) 9259542123273814144) == 0) = false := beq_eq_false_iff_ne.mpr c7
              have c7b1 : ((Go.bits .and .u64 (Go.bits .or .u64 (IntKind.u64.wrap ((Go.bits .andNot .u64 (Go.bits .xor .u64 t131 3472328296227680304) 9259542123273814144) + 8536140394893047414)) (Go.bits .xor .u64 t131 3472328296227680304)) 9259542123273814144) != 0) = true := bne_iff_ne.mpr c7
              replace H := Option.bind_eq_some_iff.mp H
              obtain ⟨t132, A90, H⟩ := H
              replace H : (some (wrap64 (x1_1 + (wrap64 (Int.tdiv t132 8))))) = some r := H
              have A9 := Aside0.mk A90
              clear A90
              obtain rfl := Option.some.inj H
              obtain ⟨i010, hi010, _, hsz10, _⟩ := info_parts info5
              obtain ⟨A10, hcut10, hA10, hC10⟩ := print_drop_of (P := Tryd.prog) (Value.int .u8) 0 22 5 .i64 Tryd.underlying22 hi010 hsz10 A0 c0 l0 x1_1 (of_decide_eq_true (by first | (with_reducible assumption) | assumption)) (of_decide_eq_true (by first | (with_reducible assumption) | assumption)) HC0.out
              have HR130 := Aside0.mk (Kd.C_of_reads (h1 := fun _ => rfl) (hA10 _ (Kd.reads_of_C HR0.out)))
              have HC130 := Aside0.mk hC10
              clear hA10 hC10 hi010 hsz10
              go_wp2_with (first | ((with_reducible refine gate_callee (f := 158) rfl ?_); refine goesL_ (some 15) rfl rfl Tryd.func158 (by kernel_rfl) rfl #[.slice A10 (l0.drop (x1_1 : Int).toNat).length (c0 - x1_1.toNat)] rfl (by (try simp only [List.map_toArray, List.map_cons, List.map_nil]); first | done | (rw [show (l0.drop (x1_1 : Int).toNat).length = (l0.length - x1_1.toNat) from List.length_drop] <;> rfl) | rfl | (simp only [List.length_drop, List.length_take]; rfl)) ?_; (with_reducible refine (gojsonnum_le64.calls _ _ (l0.drop (x1_1 : Int).toNat) t131 _ ?side1 ?side2 A6.out).mono ?_); (case side1 => repeat (first | exact HR130.out | (with_reducible refine Kd.C_alloc ?_ _) | (with_reducible refine Kd.C_drewN ?_ _) | (with_reducible refine Kd.C_drew ?_))); (case side2 => exact HC130.out); rintro e w' ⟨rfl, ⟨nd, rfl⟩⟩; refine ⟨_, rfl, ?_⟩) | ((with_reducible refine gate_callee (f := 107) rfl ?_); refine goesL_ (some 27) rfl rfl Tryd.func107 (by kernel_rfl) rfl #[.int .u64 (Go.bits .and .u64 (Go.bits .or .u64 (IntKind.u64.wrap ((Go.bits .andNot .u64 (Go.bits .xor .u64 t131 3472328296227680304) 9259542123273814144) + 8536140394893047414)) (Go.bits .xor .u64 t131 3472328296227680304)) 9259542123273814144)] rfl (by (try simp only [List.map_toArray, List.map_cons, List.map_nil]); first | done | rfl | (simp only [List.length_drop, List.length_take]; rfl)) ?_; (with_reducible refine (tz64.calls (Go.bits .and .u64 (Go.bits .or .u64 (IntKind.u64.wrap ((Go.bits .andNot .u64 (Go.bits .xor .u64 t131 3472328296227680304) 9259542123273814144) + 8536140394893047414)) (Go.bits .xor .u64 t131 3472328296227680304)) 9259542123273814144) t132 _ ?side1 A9.out).mono ?_); (case side1 => first | exact HG.out | exact Glob.drawn HG.out (by repeat (first | exact Drawn0.refl _ | apply Drawn0.step))); rintro e w' ⟨rfl, ⟨nd, rfl⟩⟩; refine ⟨_, rfl, ?_⟩))
              go_ret
              exact ⟨by first | rfl | (simp; done) | (simp [*]; done) | (simp [wrap64]; done), by repeat (first | exact Drawn0.refl _ | apply Drawn0.step)⟩
          · rw [if_neg c5] at H
            exact absurd H (by simp)
        · rw [if_neg c4] at H
          exact absurd H (by simp)
      · rw [if_neg c3] at H
        have c3b0 : decide ((wrap64 (x1_1 + 8)) ≤ (l0.length : Int)) = false := decide_eq_false c3
        clear c3
        have H' := Aside0.mk H
        clear H
        go_wp2
        go_loopg [1] k1 (fun kq v1 w' => ∃ (x1_2 : Int), v1 = .int .i64 x1_2 ∧ Aside0 (gojsonnum_ScanDigits.l1 kq l0 x1_2 = some r) ∧ Aside0 (kq ≤ k1) ∧ Drawn0 w w')
        case atStart => exact ⟨(x1_1), (by first | rfl | (simp; done) | (simp [*]; done) | (simp [wrap64]; done)), H', ⟨Nat.le_refl _⟩, by repeat (first | exact Drawn0.refl _ | apply Drawn0.step)⟩
        case round =>
          clear H'
          try clear c1
          try clear p2
          try clear c3
          try clear c3b0
          try clear c4
          try clear c4b0
          try clear c4b1
          try clear c5
          try clear c5b0
          try clear c5b1
          try clear p6
          try clear c7
          try clear c7b0
          try clear c7b1
          try clear c10
          try clear p2
          obtain ⟨x1_2, rfl, HA, HK2, ⟨m2, rfl⟩⟩ := hrel
          cases gk with
          | zero => exact absurd HA.out (by simp [gojsonnum_ScanDigits.l1])
          | succ k2 =>
            have H := HA.out
            clear HA
            simp only [gojsonnum_ScanDigits.l1] at H
            by_cases c11 : x1_2 < (l0.length : Int)
            · rw [if_pos c11] at H
              have c11b0 : decide (x1_2 < (l0.length : Int)) = true := decide_eq_true c11
              clear c11
              by_cases c12 : 0 ≤ x1_2
              · rw [if_pos c12] at H
                have c12b0 : decide (0 ≤ x1_2) = true := decide_eq_true c12
                clear c12
                by_cases c13 : 48 ≤ (rd l0 x1_2)
                · rw [if_pos c13] at H
                  have c13b0 : decide (48 ≤ (rd l0 x1_2)) = true := decide_eq_true c13
                  clear c13
                  by_cases c14 : (rd l0 x1_2) ≤ 57
                  · rw [if_pos c14] at H
                    have c14b0 : decide ((rd l0 x1_2) ≤ 57) = true := decide_eq_true c14
                    clear c14
                    have H' := Aside0.mk H
                    clear H
                    have p133 : 0 ≤ (x1_2 : Int) := of_decide_eq_true (by first | (with_reducible assumption) | assumption)
                    have q133 : x1_2 < (l0.length : Int) := of_decide_eq_true (by first | (with_reducible assumption) | assumption)
                    obtain ⟨ad133, e133, hx133_0⟩ := Kd.at_int HR0.out x1_2 p133 q133
                    cases e133
                    replace p133 := eq_true p133
                    replace q133 := eq_true q133
                    have p134 : 0 ≤ (x1_2 : Int) := of_decide_eq_true (by first | (with_reducible assumption) | assumption)
                    have q134 : x1_2 < (l0.length : Int) := of_decide_eq_true (by first | (with_reducible assumption) | assumption)
                    obtain ⟨ad134, e134, hx134_0⟩ := Kd.at_int HR0.out x1_2 p134 q134
                    obtain rfl : ad133 = ad134 := (by injection e134)
                    replace p134 := eq_true p134
                    replace q134 := eq_true q134
                    go_wp2
                    go_roundg k2
                    case measure => have := HK1.out; have := HK2.out; omega
                    case rel => exact ⟨(wrap64 (x1_2 + 1)), (by first | rfl | (simp; done) | (simp [*]; done) | (simp [wrap64]; done)), H', ⟨by have := HK1.out; have := HK2.out; omega⟩, by repeat (first | exact Drawn0.refl _ | apply Drawn0.step)⟩
                  · rw [if_neg c14] at H
                    have c14b0 : decide ((rd l0 x1_2) ≤ 57) = false := decide_eq_false c14
                    clear c14
                    obtain rfl := Option.some.inj H
                    have p133 : 0 ≤ (x1_2 : Int) := of_decide_eq_true (by first | (with_reducible assumption) | assumption)
                    have q133 : x1_2 < (l0.length : Int) := of_decide_eq_true (by first | (with_reducible assumption) | assumption)
                    obtain ⟨ad133, e133, hx133_0⟩ := Kd.at_int HR0.out x1_2 p133 q133
                    cases e133
                    replace p133 := eq_true p133
                    replace q133 := eq_true q133
                    have p134 : 0 ≤ (x1_2 : Int) := of_decide_eq_true (by first | (with_reducible assumption) | assumption)
                    have q134 : x1_2 < (l0.length : Int) := of_decide_eq_true (by first | (with_reducible assumption) | assumption)
                    obtain ⟨ad134, e134, hx134_0⟩ := Kd.at_int HR0.out x1_2 p134 q134
                    obtain rfl : ad133 = ad134 := (by injection e134)
                    replace p134 := eq_true p134
                    replace q134 := eq_true q134
                    go_wp2
                    go_ret
                    exact ⟨by first | rfl | (simp; done) | (simp [*]; done) | (simp [wrap64]; done), by repeat (first | exact Drawn0.refl _ | apply Drawn0.step)⟩
                · rw [if_neg c13] at H
                  have c13b0 : decide (48 ≤ (rd l0 x1_2)) = false := decide_eq_false c13
                  clear c13
                  obtain rfl := Option.some.inj H
                  have p133 : 0 ≤ (x1_2 : Int) := of_decide_eq_true (by first | (with_reducible assumption) | assumption)
                  have q133 : x1_2 < (l0.length : Int) := of_decide_eq_true (by first | (with_reducible assumption) | assumption)
                  obtain ⟨ad133, e133, hx133_0⟩ := Kd.at_int HR0.out x1_2 p133 q133
                  cases e133
                  replace p133 := eq_true p133
                  replace q133 := eq_true q133
                  go_wp2
                  go_ret
                  exact ⟨by first | rfl | (simp; done) | (simp [*]; done) | (simp [wrap64]; done), by repeat (first | exact Drawn0.refl _ | apply Drawn0.step)⟩
              · rw [if_neg c12] at H
                exact absurd H (by simp)
            · rw [if_neg c11] at H
              have c11b0 : decide (x1_2 < (l0.length : Int)) = false := decide_eq_false c11
              clear c11
              obtain rfl := Option.some.inj H
              go_wp2
              go_ret
              exact ⟨by first | rfl | (simp; done) | (simp [*]; done) | (simp [wrap64]; done), by repeat (first | exact Drawn0.refl _ | apply Drawn0.step)⟩

end Go.Proofs.YtfkagnpdapkaaaaDoor.QF
