-- Written by a program of this session (wip/tools/myprint.py) out of Lean's own print of the translation.
import Derived.Test.YtfkagnpdapkaaaaDoorQN0
namespace Go.Proofs.YtfkagnpdapkaaaaDoor.QN
open Go.RowKit Go.Proofs.YtfkagnpdapkaaaaDoorW.PrintWords Go.Proofs.YtfkagnpdapkaaaaDoorW.PrintLast Go.Proofs.YtfkagnpdapkaaaaDoorW.PrintMore
attribute [local go_sem] max2_int min2_int max_two min_two max_three min_three max_four min_four   -- for this text's walks alone
open Go.Proofs.YtfkagnpdapkaaaaDoor.Tab
set_option linter.unusedVariables false
set_option linter.unusedSimpArgs false

/-! ### spec_IsPlain: function 45 -/
def spec_IsPlain.l0 : Nat → List Int → Int → Int → Option (Bool)
  | 0, _, _, _ => none
  | k + 1, x5, x6, x7 => if x7 < x6 then (if 0 ≤ x7 then (if x7 < (x5.length : Int) then (if (rd x5 x7) < 32 then (some false) else (if (rd x5 x7) ≥ 128 then (some false) else (if (rd x5 x7) = 34 then (some false) else (if (rd x5 x7) = 92 then (some false) else (spec_IsPlain.l0 k x5 x6 (wrap64 (x7 + 1))))))) else (none)) else (none)) else (some true)
def spec_IsPlain.f (k : Nat) (l0 : List Int) : Option (Bool) := spec_IsPlain.l0 k l0 (l0.length : Int) 0
theorem spec_IsPlain.mono_l : ∀ k, (∀ y0 y1 y2, LeO (spec_IsPlain.l0 k y0 y1 y2) (spec_IsPlain.l0 (k + 1) y0 y1 y2))
  | 0 => fun _ _ _ r h => by simp [spec_IsPlain.l0] at h
  | k + 1 => by
    have ih0 := spec_IsPlain.mono_l k
    · intro y0 y1 y2
      unfold spec_IsPlain.l0
      repeat' first
      | (with_reducible exact ih0 _ _ _)
      | (with_reducible exact LeO.refl _)
      | (with_reducible exact LeO.none _)
      | (with_reducible refine LeO.ite ?_ ?_)
      | (with_reducible refine LeO.bind ?_ (fun _ => ?_))
      | exact ih0 _ _ _
      | exact LeO.none _
      | refine LeO.ite ?_ ?_
      | refine LeO.bind ?_ (fun _ => ?_)
theorem spec_IsPlain.mono : ∀ a0 k, LeO (spec_IsPlain.f k a0) (spec_IsPlain.f (k + 1) a0) := by
  intro a0 k
  have ih0 := spec_IsPlain.mono_l k
  unfold spec_IsPlain.f
  repeat' first
      | (with_reducible exact ih0 _ _ _)
      | (with_reducible exact LeO.refl _)
      | (with_reducible exact LeO.none _)
      | (with_reducible refine LeO.ite ?_ ?_)
      | (with_reducible refine LeO.bind ?_ (fun _ => ?_))
      | exact ih0 _ _ _
      | exact LeO.none _
      | refine LeO.ite ?_ ?_
      | refine LeO.bind ?_ (fun _ => ?_)
set_option maxHeartbeats 8000000 in
set_option maxRecDepth 100000 in
theorem spec_IsPlain.calls (k : Nat) (A0 : Option Addr) (c0 : Nat) (l0 : List Int) (r : Bool) (w : World) (hr0 : Kd.C (Kd.int .u8) w A0 l0.length l0) (hc0 : l0.length ≤ c0) (h : spec_IsPlain.f k l0 = some r) :
    Calls Tryd.prog 45 #[.slice A0 l0.length c0] w fun e w' => e = .returned (.bool r) ∧ Drawn0 w w' := by
  have HR0 := Aside0.mk hr0
  have HC0 := Aside0.mk hc0
  clear hr0 hc0
  have H : (spec_IsPlain.l0 k l0 (l0.length : Int) 0) = some r := h
  clear h
  have H' := Aside0.mk H
  clear H
  go_enter Tryd.func45, Tryd.ntmps45
  go_wp2
  go_loopg [7] k (fun kq v7 w' => ∃ (x7_1 : Int), v7 = .int .i64 x7_1 ∧ Aside0 (spec_IsPlain.l0 kq l0 (l0.length : Int) x7_1 = some r) ∧ Aside0 (kq ≤ k) ∧ Drawn0 w w')
  case atStart => exact ⟨(0), (by first | rfl | (simp; done) | (simp [*]; done) | (simp [wrap64]; done)), H', ⟨Nat.le_refl _⟩, by repeat (first | exact Drawn0.refl _ | apply Drawn0.step)⟩
  case round =>
    clear H'
    obtain ⟨x7_1, rfl, HA, HK1, ⟨m1, rfl⟩⟩ := hrel
    cases gk with
    | zero => exact absurd HA.out (by simp [spec_IsPlain.l0])
    | succ k1 =>
      have H := HA.out
      clear HA
      simp only [spec_IsPlain.l0] at H
      by_cases c2 : x7_1 < (l0.length : Int)
      · rw [if_pos c2] at H
        have c2b0 : decide (x7_1 < (l0.length : Int)) = true := decide_eq_true c2
        clear c2
        by_cases c3 : 0 ≤ x7_1
        · rw [if_pos c3] at H
          have c3b0 : decide (0 ≤ x7_1) = true := decide_eq_true c3
          clear c3
          by_cases c4 : x7_1 < (l0.length : Int)
          · rw [if_pos c4] at H
            have c4b0 : decide (x7_1 < (l0.length : Int)) = true := decide_eq_true c4
            clear c4
            by_cases c5 : (rd l0 x7_1) < 32
            · rw [if_pos c5] at H
              have c5b0 : decide ((rd l0 x7_1) < 32) = true := decide_eq_true c5
              clear c5
              obtain rfl := Option.some.inj H
              have p101 : 0 ≤ (x7_1 : Int) := of_decide_eq_true (by first | (with_reducible assumption) | assumption)
              have q101 : x7_1 < (l0.length : Int) := of_decide_eq_true (by first | (with_reducible assumption) | assumption)
              obtain ⟨ad101, e101, hx101_0⟩ := Kd.at_int HR0.out x7_1 p101 q101
              cases e101
              replace p101 := eq_true p101
              replace q101 := eq_true q101
              go_wp2
              go_ret
              exact ⟨by first | rfl | (simp; done) | (simp [*]; done) | (simp [wrap64]; done), by repeat (first | exact Drawn0.refl _ | apply Drawn0.step)⟩
            · rw [if_neg c5] at H
              have c5b0 : decide ((rd l0 x7_1) < 32) = false := decide_eq_false c5
              clear c5
              by_cases c6 : (rd l0 x7_1) ≥ 128
              · rw [if_pos c6] at H
                have c6b0 : decide (128 ≤ (rd l0 x7_1)) = true := decide_eq_true c6
                clear c6
                obtain rfl := Option.some.inj H
                have p101 : 0 ≤ (x7_1 : Int) := of_decide_eq_true (by first | (with_reducible assumption) | assumption)
                have q101 : x7_1 < (l0.length : Int) := of_decide_eq_true (by first | (with_reducible assumption) | assumption)
                obtain ⟨ad101, e101, hx101_0⟩ := Kd.at_int HR0.out x7_1 p101 q101
                cases e101
                replace p101 := eq_true p101
                replace q101 := eq_true q101
                go_wp2
                go_ret
                exact ⟨by first | rfl | (simp; done) | (simp [*]; done) | (simp [wrap64]; done), by repeat (first | exact Drawn0.refl _ | apply Drawn0.step)⟩
              · rw [if_neg c6] at H
                have c6b0 : decide (128 ≤ (rd l0 x7_1)) = false := decide_eq_false c6
                clear c6
                by_cases c7 : (rd l0 x7_1) = 34
                · rw [if_pos c7] at H
                  have c7b0 : ((rd l0 x7_1) == 34) = true := beq_iff_eq.mpr c7
                  have c7b1 : ((rd l0 x7_1) != 34) = false := bne_eq_false_iff_eq.mpr c7
                  clear c7
                  obtain rfl := Option.some.inj H
                  have p101 : 0 ≤ (x7_1 : Int) := of_decide_eq_true (by first | (with_reducible assumption) | assumption)
                  have q101 : x7_1 < (l0.length : Int) := of_decide_eq_true (by first | (with_reducible assumption) | assumption)
                  obtain ⟨ad101, e101, hx101_0⟩ := Kd.at_int HR0.out x7_1 p101 q101
                  cases e101
                  replace p101 := eq_true p101
                  replace q101 := eq_true q101
                  go_wp2
                  go_ret
                  exact ⟨by first | rfl | (simp; done) | (simp [*]; done) | (simp [wrap64]; done), by repeat (first | exact Drawn0.refl _ | apply Drawn0.step)⟩
                · rw [if_neg c7] at H
                  have c7b0 : ((rd l0 x7_1) == 34) = false := beq_eq_false_iff_ne.mpr c7
                  have c7b1 : ((rd l0 x7_1) != 34) = true := bne_iff_ne.mpr c7
                  by_cases c8 : (rd l0 x7_1) = 92
                  · rw [if_pos c8] at H
                    have c8b0 : ((rd l0 x7_1) == 92) = true := beq_iff_eq.mpr c8
                    have c8b1 : ((rd l0 x7_1) != 92) = false := bne_eq_false_iff_eq.mpr c8
                    clear c8
                    obtain rfl := Option.some.inj H
                    have p101 : 0 ≤ (x7_1 : Int) := of_decide_eq_true (by first | (with_reducible assumption) | assumption)
                    have q101 : x7_1 < (l0.length : Int) := of_decide_eq_true (by first | (with_reducible assumption) | assumption)
                    obtain ⟨ad101, e101, hx101_0⟩ := Kd.at_int HR0.out x7_1 p101 q101
                    cases e101
                    replace p101 := eq_true p101
                    replace q101 := eq_true q101
                    go_wp2
                    go_ret
                    exact ⟨by first | rfl | (simp; done) | (simp [*]; done) | (simp [wrap64]; done), by repeat (first | exact Drawn0.refl _ | apply Drawn0.step)⟩
                  · rw [if_neg c8] at H
                    have c8b0 : ((rd l0 x7_1) == 92) = false := beq_eq_false_iff_ne.mpr c8
                    have c8b1 : ((rd l0 x7_1) != 92) = true := bne_iff_ne.mpr c8
                    have H' := Aside0.mk H
                    clear H
                    have p101 : 0 ≤ (x7_1 : Int) := of_decide_eq_true (by first | (with_reducible assumption) | assumption)
                    have q101 : x7_1 < (l0.length : Int) := of_decide_eq_true (by first | (with_reducible assumption) | assumption)
                    obtain ⟨ad101, e101, hx101_0⟩ := Kd.at_int HR0.out x7_1 p101 q101
                    cases e101
                    replace p101 := eq_true p101
                    replace q101 := eq_true q101
                    go_wp2
                    go_roundg k1
                    case measure => have := HK1.out; omega
                    case rel => exact ⟨(wrap64 (x7_1 + 1)), (by first | rfl | (simp; done) | (simp [*]; done) | (simp [wrap64]; done)), H', ⟨by have := HK1.out; omega⟩, by repeat (first | exact Drawn0.refl _ | apply Drawn0.step)⟩
          · rw [if_neg c4] at H
            exact absurd H (by simp)
        · rw [if_neg c3] at H
          exact absurd H (by simp)
      · rw [if_neg c2] at H
        have c2b0 : decide (x7_1 < (l0.length : Int)) = false := decide_eq_false c2
        clear c2
        obtain rfl := Option.some.inj H
        go_wp2
        go_ret
        exact ⟨by first | rfl | (simp; done) | (simp [*]; done) | (simp [wrap64]; done), by repeat (first | exact Drawn0.refl _ | apply Drawn0.step)⟩

/-- THE ONE PURE STATEMENT of spec_IsPlain: yours. -/
def spec_IsPlain.Pure : Prop := ∀ (l0 : List Int), l0.length ≤ maxLen → l0.length * 1 ≤ 140737488351232 → (∀ x ∈ l0, (Lit.int .u8 x).wf = true) → ∃ k, spec_IsPlain.f k l0 = some true
theorem spec_IsPlain.walk (P : spec_IsPlain.Pure) (a0 : Option Addr) (len0 cap0 : Nat) (z0 : List Int) (w : World) (w0 : (a0 = none ∧ len0 = 0 ∧ cap0 = 0 ∧ z0 = []) ∨ ∃ x, a0 = some x ∧ len0 ≤ cap0 ∧ cap0 ≤ maxLen ∧ z0.length = cap0 ∧ (∀ i, i < z0.length → w.cell? (x.add i) = some (.int .u8 (z0.getD i 0))) ∧ ∀ n ∈ z0, (Lit.int .u8 n).wf = true) (y0 : len0 * 1 ≤ 140737488351232) :
    Calls Tryd.prog 45 #[.slice a0 len0 cap0] w fun e w' => e = .returned (.bool true) ∧ Below w.heap.size w w' := by
  obtain ⟨l0, rfl, hr0, hm0, hw0, hc0⟩ := ReadsInt.ofRowC w0
  obtain ⟨k, h⟩ := P l0 hm0 y0 hw0
  refine (spec_IsPlain.calls k _ _ l0 true w (Kd.C_of_reads (d := (0 : Int)) (h1 := fun _ => rfl) hr0) hc0 h).mono ?_
  rintro e w' ⟨rfl, hd⟩
  exact ⟨rfl, hd.below⟩

end Go.Proofs.YtfkagnpdapkaaaaDoor.QN
