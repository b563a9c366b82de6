-- Written by a program of this session (wip/tools/myprint.py) out of Lean's own print of the translation.
import Derived.Test.YtfkagnpdapkaaaaDoorQP0
namespace Go.Proofs.YtfkagnpdapkaaaaDoor.QP
open Go.RowKit Go.Proofs.YtfkagnpdapkaaaaDoorW.PrintWords Go.Proofs.YtfkagnpdapkaaaaDoorW.PrintLast Go.Proofs.YtfkagnpdapkaaaaDoorW.PrintMore
attribute [local go_sem] max2_int min2_int max_two min_two max_three min_three max_four min_four   -- for this text's walks alone
open Go.Proofs.YtfkagnpdapkaaaaDoor.QF
open Go.Proofs.YtfkagnpdapkaaaaDoor.Tab
set_option linter.unusedVariables false
set_option linter.unusedSimpArgs false

/-! ### gojson_plainStringEnd: function 91 -/
def gojson_plainStringEnd.l0 : Nat → List Int → Int → Int → Option (Int)
  | 0, _, _, _ => none
  | k + 1, x0, x5, x6 => if (wrap64 (x5 + 8)) ≤ x6 then ((gojson_load64.f x0 x5).bind fun t101 => ((gojson_keyEndBytes.f t101).bind fun t102 => (if (Go.bits .or .u64 t102 (Go.bits .and .u64 t101 9259542123273814144)) = 0 then (gojson_plainStringEnd.l0 k x0 (wrap64 (x5 + 8)) x6) else ((tz64.f (Go.bits .or .u64 t102 (Go.bits .and .u64 t101 9259542123273814144))).bind fun t103 => (if 0 ≤ (wrap64 (x5 + (wrap64 (Int.tdiv t103 8)))) then (if (wrap64 (x5 + (wrap64 (Int.tdiv t103 8)))) < (x0.length : Int) then (if (rd x0 (wrap64 (x5 + (wrap64 (Int.tdiv t103 8))))) = 34 then (some (wrap64 (x5 + (wrap64 (Int.tdiv t103 8))))) else (some (-1))) else (none)) else (none)))))) else (some (-1))
def gojson_plainStringEnd.f (k : Nat) (l0 : List Int) (a1 : Int) : Option (Int) := gojson_plainStringEnd.l0 k l0 a1 (l0.length : Int)
theorem gojson_plainStringEnd.mono_l : ∀ k, (∀ y0 y1 y2, LeO (gojson_plainStringEnd.l0 k y0 y1 y2) (gojson_plainStringEnd.l0 (k + 1) y0 y1 y2))
  | 0 => fun _ _ _ r h => by simp [gojson_plainStringEnd.l0] at h
  | k + 1 => by
    have ih0 := gojson_plainStringEnd.mono_l k
    · intro y0 y1 y2
      unfold gojson_plainStringEnd.l0
      repeat' first
      | (with_reducible exact ih0 _ _ _)
      | (with_reducible exact LeO.refl _)
      | (with_reducible exact LeO.none _)
      | (with_reducible refine LeO.ite ?_ ?_)
      | (with_reducible refine LeO.bind ?_ (fun _ => ?_))
      | exact ih0 _ _ _
      | exact LeO.none _
      | refine LeO.ite ?_ ?_
      | refine LeO.bind ?_ (fun _ => ?_)
theorem gojson_plainStringEnd.mono : ∀ a0 a1 k, LeO (gojson_plainStringEnd.f k a0 a1) (gojson_plainStringEnd.f (k + 1) a0 a1) := by
  intro a0 a1 k
  have ih0 := gojson_plainStringEnd.mono_l k
  unfold gojson_plainStringEnd.f
  repeat' first
      | (with_reducible exact ih0 _ _ _)
      | (with_reducible exact LeO.refl _)
      | (with_reducible exact LeO.none _)
      | (with_reducible refine LeO.ite ?_ ?_)
      | (with_reducible refine LeO.bind ?_ (fun _ => ?_))
      | exact ih0 _ _ _
      | exact LeO.none _
      | refine LeO.ite ?_ ?_
      | refine LeO.bind ?_ (fun _ => ?_)
set_option maxHeartbeats 8000000 in
set_option maxRecDepth 100000 in
theorem gojson_plainStringEnd.calls (k : Nat) (A0 : Option Addr) (c0 : Nat) (l0 : List Int) (a1 : Int) (r : Int) (w : World) (hr0 : Kd.C (Kd.int .u8) w A0 l0.length l0) (hc0 : l0.length ≤ c0) (hG : Glob w) (h : gojson_plainStringEnd.f k l0 a1 = some r) :
    Calls Tryd.prog 91 #[.slice A0 l0.length c0, .int .i64 a1] w fun e w' => e = .returned (.int .i64 r) ∧ Drawn0 w w' := by
  have HG := Aside0.mk hG
  clear hG
  have HR0 := Aside0.mk hr0
  have HC0 := Aside0.mk hc0
  clear hr0 hc0
  have H : (gojson_plainStringEnd.l0 k l0 a1 (l0.length : Int)) = some r := h
  clear h
  have H' := Aside0.mk H
  clear H
  go_enter Tryd.func91, Tryd.ntmps91
  go_wp2
  go_loopg [5] k (fun kq v5 w' => ∃ (x5_1 : Int), v5 = .int .i64 x5_1 ∧ Aside0 (gojson_plainStringEnd.l0 kq l0 x5_1 (l0.length : Int) = some r) ∧ Aside0 (kq ≤ k) ∧ Drawn0 w w')
  case atStart => exact ⟨(a1), (by first | rfl | (simp; done) | (simp [*]; done) | (simp [wrap64]; done)), H', ⟨Nat.le_refl _⟩, by repeat (first | exact Drawn0.refl _ | apply Drawn0.step)⟩
  case round =>
    clear H'
    try clear p2
    obtain ⟨x5_1, rfl, HA, HK1, ⟨m1, rfl⟩⟩ := hrel
    cases gk with
    | zero => exact absurd HA.out (by simp [gojson_plainStringEnd.l0])
    | succ k1 =>
      have H := HA.out
      clear HA
      simp only [gojson_plainStringEnd.l0] at H
      by_cases c3 : (wrap64 (x5_1 + 8)) ≤ (l0.length : Int)
      · rw [if_pos c3] at H
        have c3b0 : decide ((wrap64 (x5_1 + 8)) ≤ (l0.length : Int)) = true := decide_eq_true c3
        clear c3
        replace H := Option.bind_eq_some_iff.mp H
        obtain ⟨t101, A40, H⟩ := H
        replace H : ((gojson_keyEndBytes.f t101).bind fun t102 => (if (Go.bits .or .u64 t102 (Go.bits .and .u64 t101 9259542123273814144)) = 0 then (gojson_plainStringEnd.l0 k1 l0 (wrap64 (x5_1 + 8)) (l0.length : Int)) else ((tz64.f (Go.bits .or .u64 t102 (Go.bits .and .u64 t101 9259542123273814144))).bind fun t103 => (if 0 ≤ (wrap64 (x5_1 + (wrap64 (Int.tdiv t103 8)))) then (if (wrap64 (x5_1 + (wrap64 (Int.tdiv t103 8)))) < (l0.length : Int) then (if (rd l0 (wrap64 (x5_1 + (wrap64 (Int.tdiv t103 8))))) = 34 then (some (wrap64 (x5_1 + (wrap64 (Int.tdiv t103 8))))) else (some (-1))) else (none)) else (none))))) = some r := H
        have A4 := Aside0.mk A40
        clear A40
        replace H := Option.bind_eq_some_iff.mp H
        obtain ⟨t102, A50, H⟩ := H
        replace H : (if (Go.bits .or .u64 t102 (Go.bits .and .u64 t101 9259542123273814144)) = 0 then (gojson_plainStringEnd.l0 k1 l0 (wrap64 (x5_1 + 8)) (l0.length : Int)) else ((tz64.f (Go.bits .or .u64 t102 (Go.bits .and .u64 t101 9259542123273814144))).bind fun t103 => (if 0 ≤ (wrap64 (x5_1 + (wrap64 (Int.tdiv t103 8)))) then (if (wrap64 (x5_1 + (wrap64 (Int.tdiv t103 8)))) < (l0.length : Int) then (if (rd l0 (wrap64 (x5_1 + (wrap64 (Int.tdiv t103 8))))) = 34 then (some (wrap64 (x5_1 + (wrap64 (Int.tdiv t103 8))))) else (some (-1))) else (none)) else (none)))) = some r := H
        have A5 := Aside0.mk A50
        clear A50
        by_cases c6 : (Go.bits .or .u64 t102 (Go.bits .and .u64 t101 9259542123273814144)) = 0
        · rw [if_pos c6] at H
          have c6b0 : ((Go.bits .or .u64 t102 (Go.bits .and .u64 t101 9259542123273814144)) == 0) = true := beq_iff_eq.mpr c6
          have c6b1 : ((Go.bits .or .u64 t102 (Go.bits .and .u64 t101 9259542123273814144)) != 0) = false := bne_eq_false_iff_eq.mpr c6
          clear c6
          have H' := Aside0.mk H
          clear H
          go_wp2_with (first | ((with_reducible refine gate_callee (f := 109) rfl ?_); refine goesL_ (some 18) rfl rfl Tryd.func109 (by kernel_rfl) rfl #[.slice A0 l0.length c0, .int .i64 x5_1] rfl (by (try simp only [List.map_toArray, List.map_cons, List.map_nil]); first | done | rfl | (simp only [List.length_drop, List.length_take]; rfl)) ?_; (with_reducible refine (gojson_load64.calls _ _ l0 x5_1 t101 _ ?side1 ?side2 A4.out).mono ?_); (case side1 => repeat (first | exact HR0.out | (with_reducible refine Kd.C_alloc ?_ _) | (with_reducible refine Kd.C_drewN ?_ _) | (with_reducible refine Kd.C_drew ?_))); (case side2 => exact HC0.out); rintro e w' ⟨rfl, ⟨nd, rfl⟩⟩; refine ⟨_, rfl, ?_⟩) | ((with_reducible refine gate_callee (f := 108) rfl ?_); refine goesL_ (some 20) rfl rfl Tryd.func108 (by kernel_rfl) rfl #[.int .u64 t101] rfl (by (try simp only [List.map_toArray, List.map_cons, List.map_nil]); first | done | rfl | (simp only [List.length_drop, List.length_take]; rfl)) ?_; (with_reducible refine (gojson_keyEndBytes.calls t101 t102 _ A5.out).mono ?_); rintro e w' ⟨rfl, ⟨nd, rfl⟩⟩; refine ⟨_, rfl, ?_⟩))
          go_roundg k1
          case measure => have := HK1.out; omega
          case rel => exact ⟨(wrap64 (x5_1 + 8)), (by first | rfl | (simp; done) | (simp [*]; done) | (simp [wrap64]; done)), H', ⟨by have := HK1.out; omega⟩, by repeat (first | exact Drawn0.refl _ | apply Drawn0.step)⟩
        · rw [if_neg c6] at H
          have c6b0 : ((Go.bits .or .u64 t102 (Go.bits .and .u64 t101 9259542123273814144)) == 0) = false := beq_eq_false_iff_ne.mpr c6
          have c6b1 : ((Go.bits .or .u64 t102 (Go.bits .and .u64 t101 9259542123273814144)) != 0) = true := bne_iff_ne.mpr c6
          replace H := Option.bind_eq_some_iff.mp H
          obtain ⟨t103, A70, H⟩ := H
          replace H : (if 0 ≤ (wrap64 (x5_1 + (wrap64 (Int.tdiv t103 8)))) then (if (wrap64 (x5_1 + (wrap64 (Int.tdiv t103 8)))) < (l0.length : Int) then (if (rd l0 (wrap64 (x5_1 + (wrap64 (Int.tdiv t103 8))))) = 34 then (some (wrap64 (x5_1 + (wrap64 (Int.tdiv t103 8))))) else (some (-1))) else (none)) else (none)) = some r := H
          have A7 := Aside0.mk A70
          clear A70
          obtain ⟨ji8, hji8⟩ : ∃ j_ : Int, (wrap64 (x5_1 + (wrap64 (Int.tdiv t103 8)))) = j_ := ⟨_, rfl⟩
          replace H : (if 0 ≤ (ji8) then (if (ji8) < (l0.length : Int) then (if (rd l0 (ji8)) = 34 then (some ji8) else (some (-1))) else (none)) else (none)) = some r := by first | (rw [hji8] at H; exact H) | (simp only [hji8] at H ⊢; exact H)
          (try rw [hji8] at A4)
          (try rw [hji8] at A5)
          (try rw [hji8] at A7)
          have hji8w : (IntKind.i64.wrap (x5_1 + (wrap64 (Int.tdiv t103 8)))) = ji8 := (i64_w _).trans hji8
          by_cases c9 : 0 ≤ (ji8)
          · rw [if_pos c9] at H
            have c9b0 : decide (0 ≤ (ji8)) = true := decide_eq_true c9
            clear c9
            by_cases c10 : (ji8) < (l0.length : Int)
            · rw [if_pos c10] at H
              have c10b0 : decide ((ji8) < (l0.length : Int)) = true := decide_eq_true c10
              clear c10
              by_cases c11 : (rd l0 (ji8)) = 34
              · rw [if_pos c11] at H
                have c11b0 : ((rd l0 (ji8)) == 34) = true := beq_iff_eq.mpr c11
                have c11b1 : ((rd l0 (ji8)) != 34) = false := bne_eq_false_iff_eq.mpr c11
                clear c11
                obtain rfl := Option.some.inj H
                go_wp2_with (first | ((with_reducible refine gate_callee (f := 109) rfl ?_); refine goesL_ (some 18) rfl rfl Tryd.func109 (by kernel_rfl) rfl #[.slice A0 l0.length c0, .int .i64 x5_1] rfl (by (try simp only [List.map_toArray, List.map_cons, List.map_nil]); first | done | rfl | (simp only [List.length_drop, List.length_take]; rfl)) ?_; (with_reducible refine (gojson_load64.calls _ _ l0 x5_1 t101 _ ?side1 ?side2 A4.out).mono ?_); (case side1 => repeat (first | exact HR0.out | (with_reducible refine Kd.C_alloc ?_ _) | (with_reducible refine Kd.C_drewN ?_ _) | (with_reducible refine Kd.C_drew ?_))); (case side2 => exact HC0.out); rintro e w' ⟨rfl, ⟨nd, rfl⟩⟩; refine ⟨_, rfl, ?_⟩) | ((with_reducible refine gate_callee (f := 108) rfl ?_); refine goesL_ (some 20) rfl rfl Tryd.func108 (by kernel_rfl) rfl #[.int .u64 t101] rfl (by (try simp only [List.map_toArray, List.map_cons, List.map_nil]); first | done | rfl | (simp only [List.length_drop, List.length_take]; rfl)) ?_; (with_reducible refine (gojson_keyEndBytes.calls t101 t102 _ A5.out).mono ?_); rintro e w' ⟨rfl, ⟨nd, rfl⟩⟩; refine ⟨_, rfl, ?_⟩) | ((with_reducible refine gate_callee (f := 107) rfl ?_); refine goesL_ (some 28) rfl rfl Tryd.func107 (by kernel_rfl) rfl #[.int .u64 (Go.bits .or .u64 t102 (Go.bits .and .u64 t101 9259542123273814144))] rfl (by (try simp only [List.map_toArray, List.map_cons, List.map_nil]); first | done | rfl | (simp only [List.length_drop, List.length_take]; rfl)) ?_; (with_reducible refine (tz64.calls (Go.bits .or .u64 t102 (Go.bits .and .u64 t101 9259542123273814144)) t103 _ ?side1 A7.out).mono ?_); (case side1 => first | exact HG.out | exact Glob.drawn HG.out (by repeat (first | exact Drawn0.refl _ | apply Drawn0.step))); rintro e w' ⟨rfl, ⟨nd, rfl⟩⟩; refine ⟨_, rfl, ?_⟩; have p104 : 0 ≤ ((ji8) : Int) := of_decide_eq_true (by first | (with_reducible assumption) | assumption); have q104 : (ji8) < (l0.length : Int) := of_decide_eq_true (by first | (with_reducible assumption) | assumption); obtain ⟨ad104, e104, hx104_0⟩ := Kd.at_int HR0.out (ji8) p104 q104; cases e104; replace p104 := eq_true p104; replace q104 := eq_true q104))
                go_ret
                exact ⟨by first | rfl | (simp; done) | (simp only [← hji8] <;> (first | rfl | simp)) | (simp [*]; done) | (simp [wrap64]; done), by repeat (first | exact Drawn0.refl _ | apply Drawn0.step)⟩
              · rw [if_neg c11] at H
                have c11b0 : ((rd l0 (ji8)) == 34) = false := beq_eq_false_iff_ne.mpr c11
                have c11b1 : ((rd l0 (ji8)) != 34) = true := bne_iff_ne.mpr c11
                obtain rfl := Option.some.inj H
                go_wp2_with (first | ((with_reducible refine gate_callee (f := 109) rfl ?_); refine goesL_ (some 18) rfl rfl Tryd.func109 (by kernel_rfl) rfl #[.slice A0 l0.length c0, .int .i64 x5_1] rfl (by (try simp only [List.map_toArray, List.map_cons, List.map_nil]); first | done | rfl | (simp only [List.length_drop, List.length_take]; rfl)) ?_; (with_reducible refine (gojson_load64.calls _ _ l0 x5_1 t101 _ ?side1 ?side2 A4.out).mono ?_); (case side1 => repeat (first | exact HR0.out | (with_reducible refine Kd.C_alloc ?_ _) | (with_reducible refine Kd.C_drewN ?_ _) | (with_reducible refine Kd.C_drew ?_))); (case side2 => exact HC0.out); rintro e w' ⟨rfl, ⟨nd, rfl⟩⟩; refine ⟨_, rfl, ?_⟩) | ((with_reducible refine gate_callee (f := 108) rfl ?_); refine goesL_ (some 20) rfl rfl Tryd.func108 (by kernel_rfl) rfl #[.int .u64 t101] rfl (by (try simp only [List.map_toArray, List.map_cons, List.map_nil]); first | done | rfl | (simp only [List.length_drop, List.length_take]; rfl)) ?_; (with_reducible refine (gojson_keyEndBytes.calls t101 t102 _ A5.out).mono ?_); rintro e w' ⟨rfl, ⟨nd, rfl⟩⟩; refine ⟨_, rfl, ?_⟩) | ((with_reducible refine gate_callee (f := 107) rfl ?_); refine goesL_ (some 28) rfl rfl Tryd.func107 (by kernel_rfl) rfl #[.int .u64 (Go.bits .or .u64 t102 (Go.bits .and .u64 t101 9259542123273814144))] rfl (by (try simp only [List.map_toArray, List.map_cons, List.map_nil]); first | done | rfl | (simp only [List.length_drop, List.length_take]; rfl)) ?_; (with_reducible refine (tz64.calls (Go.bits .or .u64 t102 (Go.bits .and .u64 t101 9259542123273814144)) t103 _ ?side1 A7.out).mono ?_); (case side1 => first | exact HG.out | exact Glob.drawn HG.out (by repeat (first | exact Drawn0.refl _ | apply Drawn0.step))); rintro e w' ⟨rfl, ⟨nd, rfl⟩⟩; refine ⟨_, rfl, ?_⟩; have p104 : 0 ≤ ((ji8) : Int) := of_decide_eq_true (by first | (with_reducible assumption) | assumption); have q104 : (ji8) < (l0.length : Int) := of_decide_eq_true (by first | (with_reducible assumption) | assumption); obtain ⟨ad104, e104, hx104_0⟩ := Kd.at_int HR0.out (ji8) p104 q104; cases e104; replace p104 := eq_true p104; replace q104 := eq_true q104))
                go_ret
                exact ⟨by first | rfl | (simp; done) | (simp only [← hji8] <;> (first | rfl | simp)) | (simp [*]; done) | (simp [wrap64]; done), by repeat (first | exact Drawn0.refl _ | apply Drawn0.step)⟩
            · rw [if_neg c10] at H
              exact absurd H (by simp)
          · rw [if_neg c9] at H
            exact absurd H (by simp)
      · rw [if_neg c3] at H
        have c3b0 : decide ((wrap64 (x5_1 + 8)) ≤ (l0.length : Int)) = false := decide_eq_false c3
        clear c3
        obtain rfl := Option.some.inj H
        go_wp2
        go_ret
        exact ⟨by first | rfl | (simp; done) | (simp [*]; done) | (simp [wrap64]; done), by repeat (first | exact Drawn0.refl _ | apply Drawn0.step)⟩

end Go.Proofs.YtfkagnpdapkaaaaDoor.QP
