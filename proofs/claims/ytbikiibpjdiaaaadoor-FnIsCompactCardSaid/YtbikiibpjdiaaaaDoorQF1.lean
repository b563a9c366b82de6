-- squeezed
-- Written by a program of this session (wip/tools/myprint.py) out of Lean's own print of the translation.
import Derived.Test.YtbikiibpjdiaaaaDoorQ0
namespace Go.Proofs.YtbikiibpjdiaaaaDoor.QF
open Go.RowKit Go.Proofs.YtbikiibpjdiaaaaDoorW.PrintWords Go.Proofs.YtbikiibpjdiaaaaDoorW.PrintLast Go.Proofs.YtbikiibpjdiaaaaDoorW.PrintMore
open Go.Proofs.YtbikiibpjdiaaaaDoor.Tab Go.Proofs.YtbikiibpjdiaaaaDoor.Q0
set_option linter.unusedVariables false
set_option linter.unusedSimpArgs false

/-! ### gojsonformat_le64: function 69 -/
def gojsonformat_le64.f (l0 : List Int) : Option (Int) := if 7 < (l0.length : Int) then (if 0 < (l0.length : Int) then (if 1 < (l0.length : Int) then (if 2 < (l0.length : Int) then (if 3 < (l0.length : Int) then (if 4 < (l0.length : Int) then (if 5 < (l0.length : Int) then (if 6 < (l0.length : Int) then (some (Go.bits .or .u64 (Go.bits .or .u64 (Go.bits .or .u64 (Go.bits .or .u64 (Go.bits .or .u64 (Go.bits .or .u64 (Go.bits .or .u64 (IntKind.u64.wrap (rd l0 0)) (IntKind.u64.wrap ((IntKind.u64.wrap (rd l0 1)) * 256))) (IntKind.u64.wrap ((IntKind.u64.wrap (rd l0 2)) * 65536))) (IntKind.u64.wrap ((IntKind.u64.wrap (rd l0 3)) * 16777216))) (IntKind.u64.wrap ((IntKind.u64.wrap (rd l0 4)) * 4294967296))) (IntKind.u64.wrap ((IntKind.u64.wrap (rd l0 5)) * 1099511627776))) (IntKind.u64.wrap ((IntKind.u64.wrap (rd l0 6)) * 281474976710656))) (IntKind.u64.wrap ((IntKind.u64.wrap (rd l0 7)) * 72057594037927936)))) else (none)) else (none)) else (none)) else (none)) else (none)) else (none)) else (none)) else (none)
set_option maxHeartbeats 8000000 in
set_option maxRecDepth 100000 in
theorem gojsonformat_le64.calls (A0 : Option Addr) (c0 : Nat) (l0 : List Int) (r : Int) (w : World) (hr0 : Kd.C (Kd.int .u8) w A0 l0.length l0) (hc0 : l0.length ≤ c0) (h : gojsonformat_le64.f l0 = some r) :
  Calls Tryd.prog 69 #[.slice A0 l0.length c0] w fun e w' => e = .returned (.int .u64 r) ∧ Drawn0 w w' := by
 have HR0 := Aside0.mk hr0
 have HC0 := Aside0.mk hc0
 clear hr0 hc0
 have H : (if 7 < (l0.length : Int) then (if 0 < (l0.length : Int) then (if 1 < (l0.length : Int) then (if 2 < (l0.length : Int) then (if 3 < (l0.length : Int) then (if 4 < (l0.length : Int) then (if 5 < (l0.length : Int) then (if 6 < (l0.length : Int) then (some (Go.bits .or .u64 (Go.bits .or .u64 (Go.bits .or .u64 (Go.bits .or .u64 (Go.bits .or .u64 (Go.bits .or .u64 (Go.bits .or .u64 (IntKind.u64.wrap (rd l0 0)) (IntKind.u64.wrap ((IntKind.u64.wrap (rd l0 1)) * 256))) (IntKind.u64.wrap ((IntKind.u64.wrap (rd l0 2)) * 65536))) (IntKind.u64.wrap ((IntKind.u64.wrap (rd l0 3)) * 16777216))) (IntKind.u64.wrap ((IntKind.u64.wrap (rd l0 4)) * 4294967296))) (IntKind.u64.wrap ((IntKind.u64.wrap (rd l0 5)) * 1099511627776))) (IntKind.u64.wrap ((IntKind.u64.wrap (rd l0 6)) * 281474976710656))) (IntKind.u64.wrap ((IntKind.u64.wrap (rd l0 7)) * 72057594037927936)))) else (none)) else (none)) else (none)) else (none)) else (none)) else (none)) else (none)) else (none)) = some r := h
 clear h
 by_cases c2 : 7 < (l0.length : Int)
 ·rw [if_pos c2] at H
  have c2b0 : decide (7 < (l0.length : Int)) = true := decide_eq_true c2
  have c2b1 : decide (7 < l0.length) = true := decide_eq_true (by omega)
  clear c2
  by_cases c3 : 0 < (l0.length : Int)
  ·rw [if_pos c3] at H
   have c3b0 : decide (0 < (l0.length : Int)) = true := decide_eq_true c3
   have c3b1 : decide (0 < l0.length) = true := decide_eq_true (by omega)
   clear c3
   by_cases c4 : 1 < (l0.length : Int)
   ·rw [if_pos c4] at H
    have c4b0 : decide (1 < (l0.length : Int)) = true := decide_eq_true c4
    have c4b1 : decide (1 < l0.length) = true := decide_eq_true (by omega)
    clear c4
    by_cases c5 : 2 < (l0.length : Int)
    ·rw [if_pos c5] at H
     have c5b0 : decide (2 < (l0.length : Int)) = true := decide_eq_true c5
     have c5b1 : decide (2 < l0.length) = true := decide_eq_true (by omega)
     clear c5
     by_cases c6 : 3 < (l0.length : Int)
     ·rw [if_pos c6] at H
      have c6b0 : decide (3 < (l0.length : Int)) = true := decide_eq_true c6
      have c6b1 : decide (3 < l0.length) = true := decide_eq_true (by omega)
      clear c6
      by_cases c7 : 4 < (l0.length : Int)
      ·rw [if_pos c7] at H
       have c7b0 : decide (4 < (l0.length : Int)) = true := decide_eq_true c7
       have c7b1 : decide (4 < l0.length) = true := decide_eq_true (by omega)
       clear c7
       by_cases c8 : 5 < (l0.length : Int)
       ·rw [if_pos c8] at H
        have c8b0 : decide (5 < (l0.length : Int)) = true := decide_eq_true c8
        have c8b1 : decide (5 < l0.length) = true := decide_eq_true (by omega)
        clear c8
        by_cases c9 : 6 < (l0.length : Int)
        ·rw [if_pos c9] at H
         have c9b0 : decide (6 < (l0.length : Int)) = true := decide_eq_true c9
         have c9b1 : decide (6 < l0.length) = true := decide_eq_true (by omega)
         clear c9
         obtain rfl := Option.some.inj H
         have p101 : 0 ≤ (7 : Int) := (by omega)
         have q101 : 7 < (l0.length : Int) := of_decide_eq_true (by first | (with_reducible assumption) | assumption)
         obtain ⟨ad101, e101, hx101_0⟩ := Kd.at_int HR0.out 7 p101 q101
         cases e101
         (try simp only [show (7 : Int).toNat = 7 from rfl, Nat.reduceMul, Nat.reduceEqDiff, Go.Addr.add, ↓reduceIte] at hx101_0)
         have qi101 : (7 < l0.length) = True := eq_true (by omega)
         (try rw [show ((7 : Int)).toNat = 7 from rfl] at hx101_0)
         replace p101 := eq_true p101
         replace q101 := eq_true q101
         have p102 : 0 ≤ (0 : Int) := (by omega)
         have q102 : 0 < (l0.length : Int) := of_decide_eq_true (by first | (with_reducible assumption) | assumption)
         obtain ⟨ad102, e102, hx102_0⟩ := Kd.at_int HR0.out 0 p102 q102
         obtain rfl : ad101 = ad102 := (by injection e102)
         have qi102 : (0 < l0.length) = True := eq_true (by omega)
         (try rw [show ((0 : Int)).toNat = 0 from rfl] at hx102_0)
         (try rw [Addr.add_zero'] at hx102_0)
         replace p102 := eq_true p102
         replace q102 := eq_true q102
         have p103 : 0 ≤ (1 : Int) := (by omega)
         have q103 : 1 < (l0.length : Int) := of_decide_eq_true (by first | (with_reducible assumption) | assumption)
         obtain ⟨ad103, e103, hx103_0⟩ := Kd.at_int HR0.out 1 p103 q103
         obtain rfl : ad101 = ad103 := (by injection e103)
         (try simp only [show (1 : Int).toNat = 1 from rfl, Nat.reduceMul, Nat.reduceEqDiff, Go.Addr.add, ↓reduceIte] at hx103_0)
         have qi103 : (1 < l0.length) = True := eq_true (by omega)
         (try rw [show ((1 : Int)).toNat = 1 from rfl] at hx103_0)
         replace p103 := eq_true p103
         replace q103 := eq_true q103
         have p104 : 0 ≤ (2 : Int) := (by omega)
         have q104 : 2 < (l0.length : Int) := of_decide_eq_true (by first | (with_reducible assumption) | assumption)
         obtain ⟨ad104, e104, hx104_0⟩ := Kd.at_int HR0.out 2 p104 q104
         obtain rfl : ad101 = ad104 := (by injection e104)
         (try simp only [show (2 : Int).toNat = 2 from rfl, Nat.reduceMul, Nat.reduceEqDiff, Go.Addr.add, ↓reduceIte] at hx104_0)
         have qi104 : (2 < l0.length) = True := eq_true (by omega)
         (try rw [show ((2 : Int)).toNat = 2 from rfl] at hx104_0)
         replace p104 := eq_true p104
         replace q104 := eq_true q104
         have p105 : 0 ≤ (3 : Int) := (by omega)
         have q105 : 3 < (l0.length : Int) := of_decide_eq_true (by first | (with_reducible assumption) | assumption)
         obtain ⟨ad105, e105, hx105_0⟩ := Kd.at_int HR0.out 3 p105 q105
         obtain rfl : ad101 = ad105 := (by injection e105)
         (try simp only [show (3 : Int).toNat = 3 from rfl, Nat.reduceMul, Nat.reduceEqDiff, Go.Addr.add, ↓reduceIte] at hx105_0)
         have qi105 : (3 < l0.length) = True := eq_true (by omega)
         (try rw [show ((3 : Int)).toNat = 3 from rfl] at hx105_0)
         replace p105 := eq_true p105
         replace q105 := eq_true q105
         have p106 : 0 ≤ (4 : Int) := (by omega)
         have q106 : 4 < (l0.length : Int) := of_decide_eq_true (by first | (with_reducible assumption) | assumption)
         obtain ⟨ad106, e106, hx106_0⟩ := Kd.at_int HR0.out 4 p106 q106
         obtain rfl : ad101 = ad106 := (by injection e106)
         (try simp only [show (4 : Int).toNat = 4 from rfl, Nat.reduceMul, Nat.reduceEqDiff, Go.Addr.add, ↓reduceIte] at hx106_0)
         have qi106 : (4 < l0.length) = True := eq_true (by omega)
         (try rw [show ((4 : Int)).toNat = 4 from rfl] at hx106_0)
         replace p106 := eq_true p106
         replace q106 := eq_true q106
         have p107 : 0 ≤ (5 : Int) := (by omega)
         have q107 : 5 < (l0.length : Int) := of_decide_eq_true (by first | (with_reducible assumption) | assumption)
         obtain ⟨ad107, e107, hx107_0⟩ := Kd.at_int HR0.out 5 p107 q107
         obtain rfl : ad101 = ad107 := (by injection e107)
         (try simp only [show (5 : Int).toNat = 5 from rfl, Nat.reduceMul, Nat.reduceEqDiff, Go.Addr.add, ↓reduceIte] at hx107_0)
         have qi107 : (5 < l0.length) = True := eq_true (by omega)
         (try rw [show ((5 : Int)).toNat = 5 from rfl] at hx107_0)
         replace p107 := eq_true p107
         replace q107 := eq_true q107
         have p108 : 0 ≤ (6 : Int) := (by omega)
         have q108 : 6 < (l0.length : Int) := of_decide_eq_true (by first | (with_reducible assumption) | assumption)
         obtain ⟨ad108, e108, hx108_0⟩ := Kd.at_int HR0.out 6 p108 q108
         obtain rfl : ad101 = ad108 := (by injection e108)
         (try simp only [show (6 : Int).toNat = 6 from rfl, Nat.reduceMul, Nat.reduceEqDiff, Go.Addr.add, ↓reduceIte] at hx108_0)
         have qi108 : (6 < l0.length) = True := eq_true (by omega)
         (try rw [show ((6 : Int)).toNat = 6 from rfl] at hx108_0)
         replace p108 := eq_true p108
         replace q108 := eq_true q108
         have p109 : 0 ≤ (7 : Int) := (by omega)
         have q109 : 7 < (l0.length : Int) := of_decide_eq_true (by first | (with_reducible assumption) | assumption)
         obtain ⟨ad109, e109, hx109_0⟩ := Kd.at_int HR0.out 7 p109 q109
         obtain rfl : ad101 = ad109 := (by injection e109)
         (try simp only [show (7 : Int).toNat = 7 from rfl, Nat.reduceMul, Nat.reduceEqDiff, Go.Addr.add, ↓reduceIte] at hx109_0)
         have qi109 : (7 < l0.length) = True := eq_true (by omega)
         (try rw [show ((7 : Int)).toNat = 7 from rfl] at hx109_0)
         replace p109 := eq_true p109
         replace q109 := eq_true q109
         go_enter Tryd.func69, Tryd.ntmps69
         go_wp2
         repeat (go_quiet (fail); try go_wp2)
         go_ret
         exact ⟨by first | rfl | (simp; done) | (simp [*]; done) | (simp [wrap64]; done), by repeat (first | exact Drawn0.refl _ | apply Drawn0.step)⟩
        ·rw [if_neg c9] at H
         exact absurd H (by simp)
       ·rw [if_neg c8] at H
        exact absurd H (by simp)
      ·rw [if_neg c7] at H
       exact absurd H (by simp)
     ·rw [if_neg c6] at H
      exact absurd H (by simp)
    ·rw [if_neg c5] at H
     exact absurd H (by simp)
   ·rw [if_neg c4] at H
    exact absurd H (by simp)
  ·rw [if_neg c3] at H
   exact absurd H (by simp)
 ·rw [if_neg c2] at H
  exact absurd H (by simp)

/-! ### gojsonformat_skipFormatSpace: function 74 -/
def gojsonformat_skipFormatSpace.l0 : Nat → List Int → Int → Option (Int)
 | 0, _, _ => none
 | k + 1, x0, x1 => if 0 ≤ x1 then (if x1 < (x0.length : Int) then (if (rd x0 x1) = 32 then (gojsonformat_skipFormatSpace.l0 k x0 (wrap64 (x1 + 1))) else (if (rd x0 x1) = 10 then (gojsonformat_skipFormatSpace.l0 k x0 (wrap64 (x1 + 1))) else (if (rd x0 x1) = 9 then (gojsonformat_skipFormatSpace.l0 k x0 (wrap64 (x1 + 1))) else (if (rd x0 x1) = 13 then (gojsonformat_skipFormatSpace.l0 k x0 (wrap64 (x1 + 1))) else (some x1))))) else (none)) else (none)
def gojsonformat_skipFormatSpace.f (k : Nat) (l0 : List Int) (a1 : Int) : Option (Int) := gojsonformat_skipFormatSpace.l0 k l0 a1
theorem gojsonformat_skipFormatSpace.mono_l : ∀ k, (∀ y0 y1, LeO (gojsonformat_skipFormatSpace.l0 k y0 y1) (gojsonformat_skipFormatSpace.l0 (k + 1) y0 y1))
 | 0 => fun _ _ r h => by simp [gojsonformat_skipFormatSpace.l0] at h
 | k + 1 => by
  have ih0 := gojsonformat_skipFormatSpace.mono_l k
  ·intro y0 y1
   unfold gojsonformat_skipFormatSpace.l0
   repeat' first
   | (with_reducible exact ih0 _ _)
   | (with_reducible exact LeO.refl _)
   | (with_reducible exact LeO.none _)
   | (with_reducible refine LeO.ite ?_ ?_)
   | (with_reducible refine LeO.bind ?_ (fun _ => ?_))
   | exact ih0 _ _
   | exact LeO.none _
   | refine LeO.ite ?_ ?_
   | refine LeO.bind ?_ (fun _ => ?_)
theorem gojsonformat_skipFormatSpace.mono : ∀ a0 a1 k, LeO (gojsonformat_skipFormatSpace.f k a0 a1) (gojsonformat_skipFormatSpace.f (k + 1) a0 a1) := by
 intro a0 a1 k
 have ih0 := gojsonformat_skipFormatSpace.mono_l k
 unfold gojsonformat_skipFormatSpace.f
 repeat' first
   | (with_reducible exact ih0 _ _)
   | (with_reducible exact LeO.refl _)
   | (with_reducible exact LeO.none _)
   | (with_reducible refine LeO.ite ?_ ?_)
   | (with_reducible refine LeO.bind ?_ (fun _ => ?_))
   | exact ih0 _ _
   | exact LeO.none _
   | refine LeO.ite ?_ ?_
   | refine LeO.bind ?_ (fun _ => ?_)
set_option maxHeartbeats 8000000 in
set_option maxRecDepth 100000 in
theorem gojsonformat_skipFormatSpace.calls (k : Nat) (A0 : Option Addr) (c0 : Nat) (l0 : List Int) (a1 : Int) (r : Int) (w : World) (hr0 : Kd.C (Kd.int .u8) w A0 l0.length l0) (hc0 : l0.length ≤ c0) (h : gojsonformat_skipFormatSpace.f k l0 a1 = some r) :
  Calls Tryd.prog 74 #[.slice A0 l0.length c0, .int .i64 a1] w fun e w' => e = .returned (.int .i64 r) ∧ Drawn0 w w' := by
 have HR0 := Aside0.mk hr0
 have HC0 := Aside0.mk hc0
 clear hr0 hc0
 have H : (gojsonformat_skipFormatSpace.l0 k l0 a1) = some r := h
 clear h
 have H' := Aside0.mk H
 clear H
 go_enter Tryd.func74, Tryd.ntmps74
 go_wp2
 go_loopg [1] k (fun kq v1 w' => ∃ (x1_1 : Int), v1 = .int .i64 x1_1 ∧ Aside0 (gojsonformat_skipFormatSpace.l0 kq l0 x1_1 = some r) ∧ Aside0 (kq ≤ k) ∧ Drawn0 w w')
 case atStart => exact ⟨(a1), (by first | rfl | (simp; done) | (simp [*]; done) | (simp [wrap64]; done)), H', ⟨Nat.le_refl _⟩, by repeat (first | exact Drawn0.refl _ | apply Drawn0.step)⟩
 case round =>
  clear H'
  try clear p2
  obtain ⟨x1_1, rfl, HA, HK1, ⟨m1, rfl⟩⟩ := hrel
  cases gk with
  | zero => exact absurd HA.out (by simp [gojsonformat_skipFormatSpace.l0])
  | succ k1 =>
   have H := HA.out
   clear HA
   simp only [gojsonformat_skipFormatSpace.l0] at H
   by_cases c3 : 0 ≤ x1_1
   ·rw [if_pos c3] at H
    have c3b0 : decide (0 ≤ x1_1) = true := decide_eq_true c3
    clear c3
    by_cases c4 : x1_1 < (l0.length : Int)
    ·rw [if_pos c4] at H
     have c4b0 : decide (x1_1 < (l0.length : Int)) = true := decide_eq_true c4
     clear c4
     by_cases c5 : (rd l0 x1_1) = 32
     ·rw [if_pos c5] at H
      have c5b0 : ((rd l0 x1_1) == 32) = true := beq_iff_eq.mpr c5
      have c5b1 : ((rd l0 x1_1) != 32) = false := bne_eq_false_iff_eq.mpr c5
      clear c5
      have H' := Aside0.mk H
      clear H
      have p110 : 0 ≤ (x1_1 : Int) := of_decide_eq_true (by first | (with_reducible assumption) | assumption)
      have q110 : x1_1 < (l0.length : Int) := of_decide_eq_true (by first | (with_reducible assumption) | assumption)
      obtain ⟨ad110, e110, hx110_0⟩ := Kd.at_int HR0.out x1_1 p110 q110
      cases e110
      replace p110 := eq_true p110
      replace q110 := eq_true q110
      go_wp2
      go_roundg k1
      case measure => have := HK1.out; omega
      case rel => exact ⟨(wrap64 (x1_1 + 1)), (by first | rfl | (simp; done) | (simp [*]; done) | (simp [wrap64]; done)), H', ⟨by have := HK1.out; omega⟩, by repeat (first | exact Drawn0.refl _ | apply Drawn0.step)⟩
     ·rw [if_neg c5] at H
      have c5b0 : ((rd l0 x1_1) == 32) = false := beq_eq_false_iff_ne.mpr c5
      have c5b1 : ((rd l0 x1_1) != 32) = true := bne_iff_ne.mpr c5
      by_cases c6 : (rd l0 x1_1) = 10
      ·rw [if_pos c6] at H
       have c6b0 : ((rd l0 x1_1) == 10) = true := beq_iff_eq.mpr c6
       have c6b1 : ((rd l0 x1_1) != 10) = false := bne_eq_false_iff_eq.mpr c6
       clear c6
       have H' := Aside0.mk H
       clear H
       have p110 : 0 ≤ (x1_1 : Int) := of_decide_eq_true (by first | (with_reducible assumption) | assumption)
       have q110 : x1_1 < (l0.length : Int) := of_decide_eq_true (by first | (with_reducible assumption) | assumption)
       obtain ⟨ad110, e110, hx110_0⟩ := Kd.at_int HR0.out x1_1 p110 q110
       cases e110
       replace p110 := eq_true p110
       replace q110 := eq_true q110
       go_wp2
       go_roundg k1
       case measure => have := HK1.out; omega
       case rel => exact ⟨(wrap64 (x1_1 + 1)), (by first | rfl | (simp; done) | (simp [*]; done) | (simp [wrap64]; done)), H', ⟨by have := HK1.out; omega⟩, by repeat (first | exact Drawn0.refl _ | apply Drawn0.step)⟩
      ·rw [if_neg c6] at H
       have c6b0 : ((rd l0 x1_1) == 10) = false := beq_eq_false_iff_ne.mpr c6
       have c6b1 : ((rd l0 x1_1) != 10) = true := bne_iff_ne.mpr c6
       by_cases c7 : (rd l0 x1_1) = 9
       ·rw [if_pos c7] at H
        have c7b0 : ((rd l0 x1_1) == 9) = true := beq_iff_eq.mpr c7
        have c7b1 : ((rd l0 x1_1) != 9) = false := bne_eq_false_iff_eq.mpr c7
        clear c7
        have H' := Aside0.mk H
        clear H
        have p110 : 0 ≤ (x1_1 : Int) := of_decide_eq_true (by first | (with_reducible assumption) | assumption)
        have q110 : x1_1 < (l0.length : Int) := of_decide_eq_true (by first | (with_reducible assumption) | assumption)
        obtain ⟨ad110, e110, hx110_0⟩ := Kd.at_int HR0.out x1_1 p110 q110
        cases e110
        replace p110 := eq_true p110
        replace q110 := eq_true q110
        go_wp2
        go_roundg k1
        case measure => have := HK1.out; omega
        case rel => exact ⟨(wrap64 (x1_1 + 1)), (by first | rfl | (simp; done) | (simp [*]; done) | (simp [wrap64]; done)), H', ⟨by have := HK1.out; omega⟩, by repeat (first | exact Drawn0.refl _ | apply Drawn0.step)⟩
       ·rw [if_neg c7] at H
        have c7b0 : ((rd l0 x1_1) == 9) = false := beq_eq_false_iff_ne.mpr c7
        have c7b1 : ((rd l0 x1_1) != 9) = true := bne_iff_ne.mpr c7
        by_cases c8 : (rd l0 x1_1) = 13
        ·rw [if_pos c8] at H
         have c8b0 : ((rd l0 x1_1) == 13) = true := beq_iff_eq.mpr c8
         have c8b1 : ((rd l0 x1_1) != 13) = false := bne_eq_false_iff_eq.mpr c8
         clear c8
         have H' := Aside0.mk H
         clear H
         have p110 : 0 ≤ (x1_1 : Int) := of_decide_eq_true (by first | (with_reducible assumption) | assumption)
         have q110 : x1_1 < (l0.length : Int) := of_decide_eq_true (by first | (with_reducible assumption) | assumption)
         obtain ⟨ad110, e110, hx110_0⟩ := Kd.at_int HR0.out x1_1 p110 q110
         cases e110
         replace p110 := eq_true p110
         replace q110 := eq_true q110
         go_wp2
         go_roundg k1
         case measure => have := HK1.out; omega
         case rel => exact ⟨(wrap64 (x1_1 + 1)), (by first | rfl | (simp; done) | (simp [*]; done) | (simp [wrap64]; done)), H', ⟨by have := HK1.out; omega⟩, by repeat (first | exact Drawn0.refl _ | apply Drawn0.step)⟩
        ·rw [if_neg c8] at H
         have c8b0 : ((rd l0 x1_1) == 13) = false := beq_eq_false_iff_ne.mpr c8
         have c8b1 : ((rd l0 x1_1) != 13) = true := bne_iff_ne.mpr c8
         obtain rfl := Option.some.inj H
         have p110 : 0 ≤ (x1_1 : Int) := of_decide_eq_true (by first | (with_reducible assumption) | assumption)
         have q110 : x1_1 < (l0.length : Int) := of_decide_eq_true (by first | (with_reducible assumption) | assumption)
         obtain ⟨ad110, e110, hx110_0⟩ := Kd.at_int HR0.out x1_1 p110 q110
         cases e110
         replace p110 := eq_true p110
         replace q110 := eq_true q110
         go_wp2
         go_ret
         exact ⟨by first | rfl | (simp; done) | (simp [*]; done) | (simp [wrap64]; done), by repeat (first | exact Drawn0.refl _ | apply Drawn0.step)⟩
    ·rw [if_neg c4] at H
     exact absurd H (by simp)
   ·rw [if_neg c3] at H
    exact absurd H (by simp)

end Go.Proofs.YtbikiibpjdiaaaaDoor.QF
