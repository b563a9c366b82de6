-- Written by a program of this session (wip/tools/myprint.py) out of Lean's own print of the translation.
import Derived.Test.YtoigokgechcaiaaDoorQNm0
import Derived.Test.YtoigokgechcaiaaDoorQNm2
import Derived.Test.YtoigokgechcaiaaDoorQNm5
namespace Go.Proofs.YtoigokgechcaiaaDoor.QNm
open Go.RowKit Go.Proofs.YtoigokgechcaiaaDoorW.PrintWords Go.Proofs.YtoigokgechcaiaaDoorW.PrintLast Go.Proofs.YtoigokgechcaiaaDoorW.PrintMore
attribute [local go_sem] max2_int min2_int max_two min_two max_three min_three max_four min_four   -- for this text's walks alone
open Go.Proofs.YtoigokgechcaiaaDoor.Tab
set_option linter.unusedVariables false
set_option linter.unusedSimpArgs false

/-! ### impl_EndOfNumber: function 13 -/
def impl_EndOfNumber.f (k : Nat) (l0 : List Int) : Option (Int) := (gojsonnum_End.f k l0).bind fun t173 => (some t173)
theorem impl_EndOfNumber.mono : ∀ a0 k, LeO (impl_EndOfNumber.f k a0) (impl_EndOfNumber.f (k + 1) a0) := by
  intro a0 k
  unfold impl_EndOfNumber.f
  repeat' first
      | (with_reducible exact gojsonnum_End.mono _ _)
      | (with_reducible exact LeO.refl _)
      | (with_reducible exact LeO.none _)
      | (with_reducible refine LeO.ite ?_ ?_)
      | (with_reducible refine LeO.bind ?_ (fun _ => ?_))
      | exact gojsonnum_End.mono _ _
      | exact LeO.none _
      | refine LeO.ite ?_ ?_
      | refine LeO.bind ?_ (fun _ => ?_)
set_option maxHeartbeats 8000000 in
set_option maxRecDepth 100000 in
theorem impl_EndOfNumber.calls (k : Nat) (A0 : Option Addr) (c0 : Nat) (l0 : List Int) (r : Int) (w : World) (hr0 : Kd.C (Kd.int .u8) w A0 l0.length l0) (hc0 : l0.length ≤ c0) (hG : Glob w) (h : impl_EndOfNumber.f k l0 = some r) :
    Calls Tryd.prog 13 #[.slice A0 l0.length c0] w fun e w' => e = .returned (.int .i64 r) ∧ Drawn0 w w' := by
  have HG := Aside0.mk hG
  clear hG
  have HR0 := Aside0.mk hr0
  have HC0 := Aside0.mk hc0
  clear hr0 hc0
  have H : ((gojsonnum_End.f k l0).bind fun t173 => (some t173)) = some r := h
  clear h
  replace H := Option.bind_eq_some_iff.mp H
  obtain ⟨t173, A20, H⟩ := H
  replace H : (some t173) = some r := H
  have A2 := Aside0.mk A20
  clear A20
  obtain rfl := Option.some.inj H
  go_enter Tryd.func13, Tryd.ntmps13
  go_wp2_with (first | ((with_reducible refine gate_callee (f := 19) rfl ?_); refine goesL_ (some 4) rfl rfl Tryd.func19 (by kernel_rfl) rfl #[.slice A0 l0.length c0] rfl (by (try simp only [List.map_toArray, List.map_cons, List.map_nil]); first | done | rfl | (simp only [List.length_drop, List.length_take]; rfl)) ?_; (with_reducible refine (gojsonnum_End.calls k _ _ l0 t173 _ ?side1 ?side2 ?side3 A2.out).mono ?_); (case side1 => repeat (first | exact HR0.out | (with_reducible refine Kd.C_alloc ?_ _) | (with_reducible refine Kd.C_drewN ?_ _) | (with_reducible refine Kd.C_drew ?_))); (case side2 => exact HC0.out); (case side3 => first | exact HG.out | exact Glob.drawn HG.out (by repeat (first | exact Drawn0.refl _ | apply Drawn0.step))); rintro e w' ⟨rfl, ⟨nd, rfl⟩⟩; refine ⟨_, rfl, ?_⟩))
  go_ret
  exact ⟨by first | rfl | (simp; done) | (simp [*]; done) | (simp [wrap64]; done), by repeat (first | exact Drawn0.refl _ | apply Drawn0.step)⟩

/-! ### laws_ends8: function 14 -/
def laws_ends8.f (a0 : Int) : Option (Bool) := if a0 = 32 then (some true) else (if a0 = 9 then (some true) else (if a0 = 10 then (some true) else (if a0 = 13 then (some true) else (if a0 = 44 then (some true) else (if a0 = 93 then (some true) else (some (a0 == 125)))))))
set_option maxHeartbeats 8000000 in
set_option maxRecDepth 100000 in
theorem laws_ends8.calls (a0 : Int) (r : Bool) (w : World) (h : laws_ends8.f a0 = some r) :
    Calls Tryd.prog 14 #[.int .u8 a0] w fun e w' => e = .returned (.bool r) ∧ Drawn0 w w' := by
  have H : (if a0 = 32 then (some true) else (if a0 = 9 then (some true) else (if a0 = 10 then (some true) else (if a0 = 13 then (some true) else (if a0 = 44 then (some true) else (if a0 = 93 then (some true) else (some (a0 == 125)))))))) = some r := h
  clear h
  by_cases c2 : a0 = 32
  · rw [if_pos c2] at H
    have c2b0 : (a0 == 32) = true := beq_iff_eq.mpr c2
    have c2b1 : (a0 != 32) = false := bne_eq_false_iff_eq.mpr c2
    clear c2
    obtain rfl := Option.some.inj H
    go_enter Tryd.func14, Tryd.ntmps14
    go_wp2
    go_ret
    exact ⟨by first | rfl | (simp; done) | (simp [*]; done) | (simp [wrap64]; done), by repeat (first | exact Drawn0.refl _ | apply Drawn0.step)⟩
  · rw [if_neg c2] at H
    have c2b0 : (a0 == 32) = false := beq_eq_false_iff_ne.mpr c2
    have c2b1 : (a0 != 32) = true := bne_iff_ne.mpr c2
    by_cases c3 : a0 = 9
    · rw [if_pos c3] at H
      have c3b0 : (a0 == 9) = true := beq_iff_eq.mpr c3
      have c3b1 : (a0 != 9) = false := bne_eq_false_iff_eq.mpr c3
      clear c3
      obtain rfl := Option.some.inj H
      go_enter Tryd.func14, Tryd.ntmps14
      go_wp2
      go_ret
      exact ⟨by first | rfl | (simp; done) | (simp [*]; done) | (simp [wrap64]; done), by repeat (first | exact Drawn0.refl _ | apply Drawn0.step)⟩
    · rw [if_neg c3] at H
      have c3b0 : (a0 == 9) = false := beq_eq_false_iff_ne.mpr c3
      have c3b1 : (a0 != 9) = true := bne_iff_ne.mpr c3
      by_cases c4 : a0 = 10
      · rw [if_pos c4] at H
        have c4b0 : (a0 == 10) = true := beq_iff_eq.mpr c4
        have c4b1 : (a0 != 10) = false := bne_eq_false_iff_eq.mpr c4
        clear c4
        obtain rfl := Option.some.inj H
        go_enter Tryd.func14, Tryd.ntmps14
        go_wp2
        go_ret
        exact ⟨by first | rfl | (simp; done) | (simp [*]; done) | (simp [wrap64]; done), by repeat (first | exact Drawn0.refl _ | apply Drawn0.step)⟩
      · rw [if_neg c4] at H
        have c4b0 : (a0 == 10) = false := beq_eq_false_iff_ne.mpr c4
        have c4b1 : (a0 != 10) = true := bne_iff_ne.mpr c4
        by_cases c5 : a0 = 13
        · rw [if_pos c5] at H
          have c5b0 : (a0 == 13) = true := beq_iff_eq.mpr c5
          have c5b1 : (a0 != 13) = false := bne_eq_false_iff_eq.mpr c5
          clear c5
          obtain rfl := Option.some.inj H
          go_enter Tryd.func14, Tryd.ntmps14
          go_wp2
          go_ret
          exact ⟨by first | rfl | (simp; done) | (simp [*]; done) | (simp [wrap64]; done), by repeat (first | exact Drawn0.refl _ | apply Drawn0.step)⟩
        · rw [if_neg c5] at H
          have c5b0 : (a0 == 13) = false := beq_eq_false_iff_ne.mpr c5
          have c5b1 : (a0 != 13) = true := bne_iff_ne.mpr c5
          by_cases c6 : a0 = 44
          · rw [if_pos c6] at H
            have c6b0 : (a0 == 44) = true := beq_iff_eq.mpr c6
            have c6b1 : (a0 != 44) = false := bne_eq_false_iff_eq.mpr c6
            clear c6
            obtain rfl := Option.some.inj H
            go_enter Tryd.func14, Tryd.ntmps14
            go_wp2
            go_ret
            exact ⟨by first | rfl | (simp; done) | (simp [*]; done) | (simp [wrap64]; done), by repeat (first | exact Drawn0.refl _ | apply Drawn0.step)⟩
          · rw [if_neg c6] at H
            have c6b0 : (a0 == 44) = false := beq_eq_false_iff_ne.mpr c6
            have c6b1 : (a0 != 44) = true := bne_iff_ne.mpr c6
            by_cases c7 : a0 = 93
            · rw [if_pos c7] at H
              have c7b0 : (a0 == 93) = true := beq_iff_eq.mpr c7
              have c7b1 : (a0 != 93) = false := bne_eq_false_iff_eq.mpr c7
              clear c7
              obtain rfl := Option.some.inj H
              go_enter Tryd.func14, Tryd.ntmps14
              go_wp2
              go_ret
              exact ⟨by first | rfl | (simp; done) | (simp [*]; done) | (simp [wrap64]; done), by repeat (first | exact Drawn0.refl _ | apply Drawn0.step)⟩
            · rw [if_neg c7] at H
              have c7b0 : (a0 == 93) = false := beq_eq_false_iff_ne.mpr c7
              have c7b1 : (a0 != 93) = true := bne_iff_ne.mpr c7
              obtain rfl := Option.some.inj H
              go_enter Tryd.func14, Tryd.ntmps14
              go_wp2
              go_ret
              exact ⟨by first | rfl | (simp; done) | (simp [*]; done) | (simp [wrap64]; done), by repeat (first | exact Drawn0.refl _ | apply Drawn0.step)⟩

/-! ### laws_FnNumberEnd: function 6 -/
def laws_FnNumberEnd.j0 : Nat → List Int → Int → Bool → Option (Bool)
  | 0, _, _, _ => none
  | k + 1, x0, x3, x23 => if x23 = true then ((impl_EndOfNumber.f k x0).bind fun t176 => (some (t176 == (-1)))) else (if 0 ≤ x3 then (if x3 < (x0.length : Int) then ((laws_ends8.f (rd x0 x3)).bind fun t178 => (if t178 = true then ((impl_EndOfNumber.f k x0).bind fun t179 => (some (t179 == x3))) else (some true))) else (none)) else (none))
def laws_FnNumberEnd.f (k : Nat) (l0 : List Int) : Option (Bool) := if (l0.length : Int) > 2147483647 then (some true) else (if (l0.length : Int) > 1000 then (some true) else ((spec_ScanNumber8.f k l0).bind fun bt174 => (if bt174.2 = 0 then (laws_FnNumberEnd.j0 k l0 bt174.1 (bt174.1 == (l0.length : Int))) else (laws_FnNumberEnd.j0 k l0 bt174.1 true))))
theorem laws_FnNumberEnd.mono_l : ∀ k, (∀ y0 y1 y2, LeO (laws_FnNumberEnd.j0 k y0 y1 y2) (laws_FnNumberEnd.j0 (k + 1) y0 y1 y2))
  | 0 => fun _ _ _ r h => by simp [laws_FnNumberEnd.j0] at h
  | k + 1 => by
    have ih0 := laws_FnNumberEnd.mono_l k
    · intro y0 y1 y2
      unfold laws_FnNumberEnd.j0
      repeat' first
      | (with_reducible exact ih0 _ _ _)
      | (with_reducible exact impl_EndOfNumber.mono _ _)
      | (with_reducible exact spec_ScanNumber8.mono _ _)
      | (with_reducible exact LeO.refl _)
      | (with_reducible exact LeO.none _)
      | (with_reducible refine LeO.ite ?_ ?_)
      | (with_reducible refine LeO.bind ?_ (fun _ => ?_))
      | exact ih0 _ _ _
      | exact impl_EndOfNumber.mono _ _
      | exact spec_ScanNumber8.mono _ _
      | exact LeO.none _
      | refine LeO.ite ?_ ?_
      | refine LeO.bind ?_ (fun _ => ?_)
theorem laws_FnNumberEnd.mono : ∀ a0 k, LeO (laws_FnNumberEnd.f k a0) (laws_FnNumberEnd.f (k + 1) a0) := by
  intro a0 k
  have ih0 := laws_FnNumberEnd.mono_l k
  unfold laws_FnNumberEnd.f
  repeat' first
      | (with_reducible exact ih0 _ _ _)
      | (with_reducible exact impl_EndOfNumber.mono _ _)
      | (with_reducible exact spec_ScanNumber8.mono _ _)
      | (with_reducible exact LeO.refl _)
      | (with_reducible exact LeO.none _)
      | (with_reducible refine LeO.ite ?_ ?_)
      | (with_reducible refine LeO.bind ?_ (fun _ => ?_))
      | exact ih0 _ _ _
      | exact impl_EndOfNumber.mono _ _
      | exact spec_ScanNumber8.mono _ _
      | exact LeO.none _
      | refine LeO.ite ?_ ?_
      | refine LeO.bind ?_ (fun _ => ?_)
set_option maxHeartbeats 8000000 in
set_option maxRecDepth 100000 in
theorem laws_FnNumberEnd.calls (k : Nat) (A0 : Option Addr) (c0 : Nat) (l0 : List Int) (r : Bool) (w : World) (hr0 : Kd.C (Kd.int .u8) w A0 l0.length l0) (hc0 : l0.length ≤ c0) (hG : Glob w) (h : laws_FnNumberEnd.f k l0 = some r) :
    Calls Tryd.prog 6 #[.slice A0 l0.length c0] w fun e w' => e = .returned (.bool r) ∧ Drawn0 w w' := by
  have HG := Aside0.mk hG
  clear hG
  have HR0 := Aside0.mk hr0
  have HC0 := Aside0.mk hc0
  clear hr0 hc0
  have H : (if (l0.length : Int) > 2147483647 then (some true) else (if (l0.length : Int) > 1000 then (some true) else ((spec_ScanNumber8.f k l0).bind fun bt174 => (if bt174.2 = 0 then (laws_FnNumberEnd.j0 k l0 bt174.1 (bt174.1 == (l0.length : Int))) else (laws_FnNumberEnd.j0 k l0 bt174.1 true))))) = some r := h
  clear h
  by_cases c2 : (l0.length : Int) > 2147483647
  · rw [if_pos c2] at H
    have c2b0 : decide (2147483647 < (l0.length : Int)) = true := decide_eq_true c2
    have c2b1 : decide (2147483647 < l0.length) = true := decide_eq_true (by omega)
    clear c2
    obtain rfl := Option.some.inj H
    go_enter Tryd.func6, Tryd.ntmps6
    go_wp2
    go_ret
    exact ⟨by first | rfl | (simp; done) | (simp [*]; done) | (simp [wrap64]; done), by repeat (first | exact Drawn0.refl _ | apply Drawn0.step)⟩
  · rw [if_neg c2] at H
    have c2b0 : decide (2147483647 < (l0.length : Int)) = false := decide_eq_false c2
    have c2b1 : decide (2147483647 < l0.length) = false := decide_eq_false (by omega)
    clear c2
    by_cases c3 : (l0.length : Int) > 1000
    · rw [if_pos c3] at H
      have c3b0 : decide (1000 < (l0.length : Int)) = true := decide_eq_true c3
      have c3b1 : decide (1000 < l0.length) = true := decide_eq_true (by omega)
      clear c3
      obtain rfl := Option.some.inj H
      go_enter Tryd.func6, Tryd.ntmps6
      go_wp2
      go_ret
      exact ⟨by first | rfl | (simp; done) | (simp [*]; done) | (simp [wrap64]; done), by repeat (first | exact Drawn0.refl _ | apply Drawn0.step)⟩
    · rw [if_neg c3] at H
      have c3b0 : decide (1000 < (l0.length : Int)) = false := decide_eq_false c3
      have c3b1 : decide (1000 < l0.length) = false := decide_eq_false (by omega)
      clear c3
      replace H := Option.bind_eq_some_iff.mp H
      obtain ⟨⟨t174, t175⟩, A40, H⟩ := H
      replace H : (if t175 = 0 then (laws_FnNumberEnd.j0 k l0 t174 (t174 == (l0.length : Int))) else (laws_FnNumberEnd.j0 k l0 t174 true)) = some r := H
      have A4 := Aside0.mk A40
      clear A40
      have HC5 := Aside0.mk H
      clear H
      go_enter Tryd.func6, Tryd.ntmps6
      go_upto_region 6 with (first | ((with_reducible refine gate_callee (f := 11) rfl ?_); refine goesL_ (some 13) rfl rfl Tryd.func11 (by kernel_rfl) rfl #[.slice A0 l0.length c0] rfl (by (try simp only [List.map_toArray, List.map_cons, List.map_nil]); first | done | rfl | (simp only [List.length_drop, List.length_take]; rfl)) ?_; (with_reducible refine (spec_ScanNumber8.calls k _ _ l0 t174 t175 _ ?side1 ?side2 A4.out).mono ?_); (case side1 => repeat (first | exact HR0.out | (with_reducible refine Kd.C_alloc ?_ _) | (with_reducible refine Kd.C_drewN ?_ _) | (with_reducible refine Kd.C_drew ?_))); (case side2 => exact HC0.out); rintro e w' ⟨rfl, ⟨nd, rfl⟩⟩; refine ⟨_, rfl, ?_⟩))
      (try simp only [Act.put, List.setIfInBounds_toArray, List.set_cons_zero, List.set_cons_succ])
      go_cut [23] (fun v23 wc => ∃ (kq : Nat) (x23_4 : Bool), v23 = .bool x23_4 ∧ Aside0 (laws_FnNumberEnd.j0 kq l0 t174 x23_4 = some r) ∧ Aside0 (kq ≤ k) ∧ Drawn0 w wc)
      case first =>
        have H := HC5.out
        clear HC5
        by_cases c6 : t175 = 0
        · rw [if_pos c6] at H
          have c6b0 : (t175 == 0) = true := beq_iff_eq.mpr c6
          have c6b1 : (t175 != 0) = false := bne_eq_false_iff_eq.mpr c6
          clear c6
          (first | rw [c6b0] | (simp only [i64_w, i32_w]; rw [c6b0]) | skip)
          have H' := Aside0.mk H
          clear H
          go_wp2
          go_meet
          case rel => exact ⟨_, ((t174 == (l0.length : Int))), (by first | rfl | (simp; done) | (simp [*]; done) | (simp [wrap64]; done)), H', ⟨by first | omega | exact Nat.le_refl _⟩, by repeat (first | exact Drawn0.refl _ | apply Drawn0.step)⟩
        · rw [if_neg c6] at H
          have c6b0 : (t175 == 0) = false := beq_eq_false_iff_ne.mpr c6
          have c6b1 : (t175 != 0) = true := bne_iff_ne.mpr c6
          (first | rw [c6b0] | (simp only [i64_w, i32_w]; rw [c6b0]) | skip)
          have H' := Aside0.mk H
          clear H
          go_wp2
          go_meet
          case rel => exact ⟨_, (true), (by first | rfl | (simp; done) | (simp [*]; done) | (simp [wrap64]; done)), H', ⟨by first | omega | exact Nat.le_refl _⟩, by repeat (first | exact Drawn0.refl _ | apply Drawn0.step)⟩
      case rest =>
        clear HC5
        try clear c1
        try clear c2
        try clear c2b0
        try clear c2b1
        try clear p2
        try clear c3
        try clear c3b0
        try clear c3b1
        try clear c6
        try clear c6b0
        try clear c6b1
        try clear p6
        obtain ⟨kq, x23_4, rfl, HA, HJ4, ⟨mc4, rfl⟩⟩ := hcut
        cases kq with
        | zero => exact absurd HA.out (by simp [laws_FnNumberEnd.j0])
        | succ kj4 =>
          have H := HA.out
          clear HA
          simp only [laws_FnNumberEnd.j0] at H
          by_cases c7 : x23_4 = true
          · subst c7
            have H1 : ((impl_EndOfNumber.f kj4 l0).bind fun t176 => (some (t176 == (-1)))) = some r := by rw [if_pos rfl] at H; exact H
            clear H
            have H := H1
            clear H1
            replace H := Option.bind_eq_some_iff.mp H
            obtain ⟨t176, A80, H⟩ := H
            replace H : (some (t176 == (-1))) = some r := H
            have A8 := Aside0.mk A80
            clear A80
            obtain rfl := Option.some.inj H
            go_wp2_with (first | ((with_reducible refine gate_callee (f := 13) rfl ?_); refine goesL_ (some 25) rfl rfl Tryd.func13 (by kernel_rfl) rfl #[.slice A0 l0.length c0] rfl (by (try simp only [List.map_toArray, List.map_cons, List.map_nil]); first | done | rfl | (simp only [List.length_drop, List.length_take]; rfl)) ?_; (with_reducible refine (impl_EndOfNumber.calls kj4 _ _ l0 t176 _ ?side1 ?side2 ?side3 A8.out).mono ?_); (case side1 => repeat (first | exact HR0.out | (with_reducible refine Kd.C_alloc ?_ _) | (with_reducible refine Kd.C_drewN ?_ _) | (with_reducible refine Kd.C_drew ?_))); (case side2 => exact HC0.out); (case side3 => first | exact HG.out | exact Glob.drawn HG.out (by repeat (first | exact Drawn0.refl _ | apply Drawn0.step))); rintro e w' ⟨rfl, ⟨nd, rfl⟩⟩; refine ⟨_, rfl, ?_⟩))
            go_ret
            exact ⟨by first | rfl | (simp; done) | (simp [*]; done) | (simp [wrap64]; done), by repeat (first | exact Drawn0.refl _ | apply Drawn0.step)⟩
          · replace c7 := Bool.eq_false_iff.mpr c7
            subst c7
            have H1 : (if 0 ≤ t174 then (if t174 < (l0.length : Int) then ((laws_ends8.f (rd l0 t174)).bind fun t178 => (if t178 = true then ((impl_EndOfNumber.f kj4 l0).bind fun t179 => (some (t179 == t174))) else (some true))) else (none)) else (none)) = some r := by rw [if_neg (show ¬ (false = true) by decide)] at H; exact H
            clear H
            have H := H1
            clear H1
            by_cases c9 : 0 ≤ t174
            · rw [if_pos c9] at H
              have c9b0 : decide (0 ≤ t174) = true := decide_eq_true c9
              clear c9
              by_cases c10 : t174 < (l0.length : Int)
              · rw [if_pos c10] at H
                have c10b0 : decide (t174 < (l0.length : Int)) = true := decide_eq_true c10
                clear c10
                replace H := Option.bind_eq_some_iff.mp H
                obtain ⟨t178, A110, H⟩ := H
                replace H : (if t178 = true then ((impl_EndOfNumber.f kj4 l0).bind fun t179 => (some (t179 == t174))) else (some true)) = some r := H
                have A11 := Aside0.mk A110
                clear A110
                by_cases c12 : t178 = true
                · subst c12
                  have H1 : ((impl_EndOfNumber.f kj4 l0).bind fun t179 => (some (t179 == t174))) = some r := by rw [if_pos rfl] at H; exact H
                  clear H
                  have H := H1
                  clear H1
                  replace H := Option.bind_eq_some_iff.mp H
                  obtain ⟨t179, A130, H⟩ := H
                  replace H : (some (t179 == t174)) = some r := H
                  have A13 := Aside0.mk A130
                  clear A130
                  obtain rfl := Option.some.inj H
                  have p177 : 0 ≤ (t174 : Int) := of_decide_eq_true (by first | (with_reducible assumption) | assumption)
                  have q177 : t174 < (l0.length : Int) := of_decide_eq_true (by first | (with_reducible assumption) | assumption)
                  obtain ⟨ad177, e177, hx177_0⟩ := Kd.at_int HR0.out t174 p177 q177
                  cases e177
                  replace p177 := eq_true p177
                  replace q177 := eq_true q177
                  go_wp2_with (first | ((with_reducible refine gate_callee (f := 14) rfl ?_); refine goesL_ (some 31) rfl rfl Tryd.func14 (by kernel_rfl) rfl #[.int .u8 (rd l0 t174)] rfl (by (try simp only [List.map_toArray, List.map_cons, List.map_nil]); first | done | rfl | (simp only [List.length_drop, List.length_take]; rfl)) ?_; (with_reducible refine (laws_ends8.calls (rd l0 t174) true _ A11.out).mono ?_); rintro e w' ⟨rfl, ⟨nd, rfl⟩⟩; refine ⟨_, rfl, ?_⟩) | (go_at_call 13; (with_reducible refine (impl_EndOfNumber.calls kj4 _ _ l0 t179 _ ?side1 ?side2 ?side3 A13.out).mono ?_); (case side1 => repeat (first | exact HR0.out | (with_reducible refine Kd.C_alloc ?_ _) | (with_reducible refine Kd.C_drewN ?_ _) | (with_reducible refine Kd.C_drew ?_))); (case side2 => exact HC0.out); (case side3 => first | exact HG.out | exact Glob.drawn HG.out (by repeat (first | exact Drawn0.refl _ | apply Drawn0.step))); rintro e w' ⟨rfl, ⟨nd, rfl⟩⟩))
                  go_ret
                  exact ⟨by first | rfl | (simp; done) | (simp [*]; done) | (simp [wrap64]; done), by repeat (first | exact Drawn0.refl _ | apply Drawn0.step)⟩
                · replace c12 := Bool.eq_false_iff.mpr c12
                  subst c12
                  have H1 : (some true) = some r := by rw [if_neg (show ¬ (false = true) by decide)] at H; exact H
                  clear H
                  have H := H1
                  clear H1
                  obtain rfl := Option.some.inj H
                  have p177 : 0 ≤ (t174 : Int) := of_decide_eq_true (by first | (with_reducible assumption) | assumption)
                  have q177 : t174 < (l0.length : Int) := of_decide_eq_true (by first | (with_reducible assumption) | assumption)
                  obtain ⟨ad177, e177, hx177_0⟩ := Kd.at_int HR0.out t174 p177 q177
                  cases e177
                  replace p177 := eq_true p177
                  replace q177 := eq_true q177
                  go_wp2_with (first | ((with_reducible refine gate_callee (f := 14) rfl ?_); refine goesL_ (some 31) rfl rfl Tryd.func14 (by kernel_rfl) rfl #[.int .u8 (rd l0 t174)] rfl (by (try simp only [List.map_toArray, List.map_cons, List.map_nil]); first | done | rfl | (simp only [List.length_drop, List.length_take]; rfl)) ?_; (with_reducible refine (laws_ends8.calls (rd l0 t174) false _ A11.out).mono ?_); rintro e w' ⟨rfl, ⟨nd, rfl⟩⟩; refine ⟨_, rfl, ?_⟩))
                  go_ret
                  exact ⟨by first | rfl | (simp; done) | (simp [*]; done) | (simp [wrap64]; done), by repeat (first | exact Drawn0.refl _ | apply Drawn0.step)⟩
              · rw [if_neg c10] at H
                exact absurd H (by simp)
            · rw [if_neg c9] at H
              exact absurd H (by simp)

/-- THE ONE PURE STATEMENT of laws_FnNumberEnd: yours. -/
def laws_FnNumberEnd.Pure : Prop := ∀ (l0 : List Int), l0.length ≤ maxLen → l0.length * 1 ≤ 140737488351232 → (∀ x ∈ l0, (Lit.int .u8 x).wf = true) → ∃ k, laws_FnNumberEnd.f k l0 = some true
theorem laws_FnNumberEnd.walk (P : laws_FnNumberEnd.Pure) (a0 : Option Addr) (len0 cap0 : Nat) (z0 : List Int) (w : World) (w0 : (a0 = none ∧ len0 = 0 ∧ cap0 = 0 ∧ z0 = []) ∨ ∃ x, a0 = some x ∧ len0 ≤ cap0 ∧ cap0 ≤ maxLen ∧ z0.length = cap0 ∧ (∀ i, i < z0.length → w.cell? (x.add i) = some (.int .u8 (z0.getD i 0))) ∧ ∀ n ∈ z0, (Lit.int .u8 n).wf = true) (y0 : len0 * 1 ≤ 140737488351232) (hG : Glob w) :
    Calls Tryd.prog 6 #[.slice a0 len0 cap0] w fun e w' => e = .returned (.bool true) ∧ Below w.heap.size w w' := by
  obtain ⟨l0, rfl, hr0, hm0, hw0, hc0⟩ := ReadsInt.ofRowC w0
  obtain ⟨k, h⟩ := P l0 hm0 y0 hw0
  refine (laws_FnNumberEnd.calls k _ _ l0 true w (Kd.C_of_reads (d := (0 : Int)) (h1 := fun _ => rfl) hr0) hc0 hG h).mono ?_
  rintro e w' ⟨rfl, hd⟩
  exact ⟨rfl, hd.below⟩

end Go.Proofs.YtoigokgechcaiaaDoor.QNm
