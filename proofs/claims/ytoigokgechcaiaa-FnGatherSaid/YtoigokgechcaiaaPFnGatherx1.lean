-- PRINTED BY print.sh 35421559b90ae4d0a3588c463048766b98c2df88dd9212a6774a882060cdf62d: not written by this session
import Derived.Test.YtoigokgechcaiaaPFnGatherx0
namespace Go.Proofs.Ytoigokgechcaiaa.PFnGather
open Go.RowKit Go.Proofs.YtoigokgechcaiaaW.PrintWords Go.Proofs.YtoigokgechcaiaaW.PrintLast Go.Proofs.YtoigokgechcaiaaW.PrintMore
attribute [local go_sem] max2_int min2_int max_two min_two max_three min_three max_four min_four   -- for this text's walks alone
set_option linter.unusedVariables false
set_option linter.unusedSimpArgs false

/-! ### gojsonnum_GatherTops: function 21 -/
def gojsonnum_GatherTops.f (a0 : Int) : Option (Int) := some (((IntKind.u64.wrap ((a0 / 128) * 72624976668147840)) / 72057594037927936) % 256)
set_option maxHeartbeats 8000000 in
set_option maxRecDepth 100000 in
theorem gojsonnum_GatherTops.calls (a0 : Int) (r : Int) (w : World) (h : gojsonnum_GatherTops.f a0 = some r) :
    Calls Try.prog 21 #[.int .u64 a0] w fun e w' => e = .returned (.int .u8 r) ∧ Drawn0 w w' := by
  have H : (some (((IntKind.u64.wrap ((a0 / 128) * 72624976668147840)) / 72057594037927936) % 256)) = some r := h
  clear h
  obtain rfl := Option.some.inj H
  go_enter Try.func21, Try.ntmps21
  go_wp2
  go_ret
  exact ⟨by first | rfl | (simp; done) | (simp [*]; done), by repeat (first | exact Drawn0.refl _ | apply Drawn0.step)⟩

/-! ### impl_Gather: function 10 -/
def impl_Gather.f (a0 : Int) : Option (Int) := (gojsonnum_GatherTops.f a0).bind fun t101 => (some t101)
set_option maxHeartbeats 8000000 in
set_option maxRecDepth 100000 in
theorem impl_Gather.calls (a0 : Int) (r : Int) (w : World) (h : impl_Gather.f a0 = some r) :
    Calls Try.prog 10 #[.int .u64 a0] w fun e w' => e = .returned (.int .u8 r) ∧ Drawn0 w w' := by
  have H : ((gojsonnum_GatherTops.f a0).bind fun t101 => (some t101)) = some r := h
  clear h
  replace H := Option.bind_eq_some_iff.mp H
  obtain ⟨t101, A20, H⟩ := H
  replace H : (some t101) = some r := H
  have A2 := Aside0.mk A20
  clear A20
  obtain rfl := Option.some.inj H
  go_enter Try.func10, Try.ntmps10
  go_wp2_with (first | ((with_reducible refine gate_callee (f := 21) rfl ?_); refine goesL_ (some 4) rfl rfl Try.func21 (by kernel_rfl) rfl #[.int .u64 a0] rfl (by (try simp only [List.map_toArray, List.map_cons, List.map_nil]); first | done | rfl | (simp only [List.length_drop, List.length_take]; rfl)) ?_; (with_reducible refine (gojsonnum_GatherTops.calls a0 t101 _ A2.out).mono ?_); rintro e w' ⟨rfl, ⟨nd, rfl⟩⟩; refine ⟨_, rfl, ?_⟩))
  go_ret
  exact ⟨by first | rfl | (simp; done) | (simp [*]; done), by repeat (first | exact Drawn0.refl _ | apply Drawn0.step)⟩

/-! ### laws_FnGather: function 4 -/
def laws_FnGather.l0 : Nat → Int → Int → Int → Option (Bool)
  | 0, _, _, _ => none
  | k + 1, x0, x3, x5 => if x5 < 8 then (if 0 ≤ (wrap64 (8 * x5)) then (if ((shr .u64 x0 (wrap64 (8 * x5))) % 256) = 0 then (laws_FnGather.l0 k x0 x3 (wrap64 (x5 + 1))) else (if ((shr .u64 x0 (wrap64 (8 * x5))) % 256) = 128 then (if 0 ≤ x5 then (laws_FnGather.l0 k x0 (Go.bits .or .u8 x3 (shl .u8 1 x5)) (wrap64 (x5 + 1))) else (none)) else (some true))) else (none)) else ((impl_Gather.f x0).bind fun t102 => (some (t102 == x3)))
def laws_FnGather.f (k : Nat) (a0 : Int) : Option (Bool) := laws_FnGather.l0 k a0 0 0
theorem laws_FnGather.mono_l : ∀ k, (∀ y0 y1 y2, LeO (laws_FnGather.l0 k y0 y1 y2) (laws_FnGather.l0 (k + 1) y0 y1 y2))
  | 0 => fun _ _ _ r h => by simp [laws_FnGather.l0] at h
  | k + 1 => by
    have ih0 := laws_FnGather.mono_l k
    · intro y0 y1 y2
      unfold laws_FnGather.l0
      repeat' first
      | (with_reducible exact ih0 _ _ _)
      | (with_reducible exact LeO.refl _)
      | (with_reducible exact LeO.none _)
      | (with_reducible refine LeO.ite ?_ ?_)
      | (with_reducible refine LeO.bind ?_ (fun _ => ?_))
      | exact ih0 _ _ _
      | exact LeO.none _
      | refine LeO.ite ?_ ?_
      | refine LeO.bind ?_ (fun _ => ?_)
theorem laws_FnGather.mono : ∀ a0 k, LeO (laws_FnGather.f k a0) (laws_FnGather.f (k + 1) a0) := by
  intro a0 k
  have ih0 := laws_FnGather.mono_l k
  unfold laws_FnGather.f
  repeat' first
      | (with_reducible exact ih0 _ _ _)
      | (with_reducible exact LeO.refl _)
      | (with_reducible exact LeO.none _)
      | (with_reducible refine LeO.ite ?_ ?_)
      | (with_reducible refine LeO.bind ?_ (fun _ => ?_))
      | exact ih0 _ _ _
      | exact LeO.none _
      | refine LeO.ite ?_ ?_
      | refine LeO.bind ?_ (fun _ => ?_)
set_option maxHeartbeats 8000000 in
set_option maxRecDepth 100000 in
theorem laws_FnGather.calls (k : Nat) (a0 : Int) (r : Bool) (w : World) (h : laws_FnGather.f k a0 = some r) :
    Calls Try.prog 4 #[.int .u64 a0] w fun e w' => e = .returned (.bool r) ∧ Drawn0 w w' := by
  have H : (laws_FnGather.l0 k a0 0 0) = some r := h
  clear h
  have H' := Aside0.mk H
  clear H
  go_enter Try.func4, Try.ntmps4
  go_wp2
  go_loopg [3, 5] k (fun kq v3 v5 w' => ∃ (x3_1 : Int) (x5_1 : Int), v3 = .int .u8 x3_1 ∧ v5 = .int .i64 x5_1 ∧ Aside0 (laws_FnGather.l0 kq a0 x3_1 x5_1 = some r) ∧ Aside0 (kq ≤ k) ∧ Drawn0 w w')
  case atStart => exact ⟨(0), (0), (by first | rfl | (simp; done) | (simp [*]; done)), (by first | rfl | (simp; done) | (simp [*]; done)), H', ⟨Nat.le_refl _⟩, by repeat (first | exact Drawn0.refl _ | apply Drawn0.step)⟩
  case round =>
    clear H'
    obtain ⟨x3_1, x5_1, rfl, rfl, HA, HK1, ⟨m1, rfl⟩⟩ := hrel
    cases gk with
    | zero => exact absurd HA.out (by simp [laws_FnGather.l0])
    | succ k1 =>
      have H := HA.out
      clear HA
      simp only [laws_FnGather.l0] at H
      by_cases c2 : x5_1 < 8
      · rw [if_pos c2] at H
        have c2b0 : decide (x5_1 < 8) = true := decide_eq_true c2
        clear c2
        obtain ⟨ji3, hji3⟩ : ∃ j_ : Int, (wrap64 (8 * x5_1)) = j_ := ⟨_, rfl⟩
        replace H : (if 0 ≤ (ji3) then (if ((shr .u64 a0 (ji3)) % 256) = 0 then (laws_FnGather.l0 k1 a0 x3_1 (wrap64 (x5_1 + 1))) else (if ((shr .u64 a0 (ji3)) % 256) = 128 then (if 0 ≤ x5_1 then (laws_FnGather.l0 k1 a0 (Go.bits .or .u8 x3_1 (shl .u8 1 x5_1)) (wrap64 (x5_1 + 1))) else (none)) else (some true))) else (none)) = some r := by first | (rw [hji3] at H; exact H) | (simp only [hji3] at H ⊢; exact H)
        have hji3w : (IntKind.i64.wrap (8 * x5_1)) = ji3 := (i64_w _).trans hji3
        by_cases c4 : 0 ≤ (ji3)
        · rw [if_pos c4] at H
          have c4b0 := eq_true c4
          have c4b1 : decide (0 ≤ (ji3)) = true := decide_eq_true c4
          clear c4
          obtain ⟨ji5, hji5⟩ : ∃ j_ : Int, (shr .u64 a0 (ji3)) = j_ := ⟨_, rfl⟩
          replace H : (if ((ji5) % 256) = 0 then (laws_FnGather.l0 k1 a0 x3_1 (wrap64 (x5_1 + 1))) else (if ((ji5) % 256) = 128 then (if 0 ≤ x5_1 then (laws_FnGather.l0 k1 a0 (Go.bits .or .u8 x3_1 (shl .u8 1 x5_1)) (wrap64 (x5_1 + 1))) else (none)) else (some true))) = some r := by first | (rw [hji5] at H; exact H) | (simp only [hji5] at H ⊢; exact H)
          have hji5_ : (a0 / 2 ^ min (ji3).toNat 64) = ji5 := hji5
          have hji5z : (ji3) ≤ 64 → (a0 / 2 ^ (ji3).toNat) = ji5 := shr_small hji5
          by_cases c6 : ((ji5) % 256) = 0
          · rw [if_pos c6] at H
            have c6b0 : (((ji5) % 256) == 0) = true := beq_iff_eq.mpr c6
            have c6b1 : (((ji5) % 256) != 0) = false := bne_eq_false_iff_eq.mpr c6
            clear c6
            have H' := Aside0.mk H
            clear H
            go_wp2
            go_roundg k1
            case measure => have := HK1.out; omega
            case rel => exact ⟨(x3_1), (wrap64 (x5_1 + 1)), (by first | rfl | (simp; done) | (simp [*]; done)), (by first | rfl | (simp; done) | (simp [*]; done)), H', ⟨by have := HK1.out; omega⟩, by repeat (first | exact Drawn0.refl _ | apply Drawn0.step)⟩
          · rw [if_neg c6] at H
            have c6b0 : (((ji5) % 256) == 0) = false := beq_eq_false_iff_ne.mpr c6
            have c6b1 : (((ji5) % 256) != 0) = true := bne_iff_ne.mpr c6
            by_cases c7 : ((ji5) % 256) = 128
            · rw [if_pos c7] at H
              have c7b0 : (((ji5) % 256) == 128) = true := beq_iff_eq.mpr c7
              have c7b1 : (((ji5) % 256) != 128) = false := bne_eq_false_iff_eq.mpr c7
              clear c7
              by_cases c8 : 0 ≤ x5_1
              · rw [if_pos c8] at H
                have c8b0 := eq_true c8
                have c8b1 : decide (0 ≤ x5_1) = true := decide_eq_true c8
                clear c8
                obtain ⟨ji9, hji9⟩ : ∃ j_ : Int, (shl .u8 1 x5_1) = j_ := ⟨_, rfl⟩
                replace H : (laws_FnGather.l0 k1 a0 (Go.bits .or .u8 x3_1 (ji9)) (wrap64 (x5_1 + 1))) = some r := by first | (rw [hji9] at H; exact H) | (simp only [hji9] at H ⊢; exact H)
                have hji9_ : (IntKind.u8.wrap (1 * 2 ^ min x5_1.toNat 8)) = ji9 := hji9
                have hji9z : x5_1 ≤ 8 → (IntKind.u8.wrap (1 * 2 ^ x5_1.toNat)) = ji9 := shl_small hji9
                have hji9u : (IntKind.u8.wrap (2 ^ min x5_1.toNat 8)) = ji9 := by have h_ := hji9_; rw [Int.one_mul] at h_; exact h_
                have hji9v : x5_1 ≤ 8 → (IntKind.u8.wrap (2 ^ x5_1.toNat)) = ji9 := fun hle_ => by have h_ := hji9z hle_; rw [Int.one_mul] at h_; exact h_
                have H' := Aside0.mk H
                clear H
                go_wp2
                go_roundg k1
                case measure => have := HK1.out; omega
                case rel => exact ⟨(Go.bits .or .u8 x3_1 (ji9)), (wrap64 (x5_1 + 1)), (by first | rfl | (simp; done) | (simp only [← hji9] <;> (first | rfl | simp)) | (simp [*]; done)), (by first | rfl | (simp; done) | (simp [*]; done)), H', ⟨by have := HK1.out; omega⟩, by repeat (first | exact Drawn0.refl _ | apply Drawn0.step)⟩
              · rw [if_neg c8] at H
                exact absurd H (by simp)
            · rw [if_neg c7] at H
              have c7b0 : (((ji5) % 256) == 128) = false := beq_eq_false_iff_ne.mpr c7
              have c7b1 : (((ji5) % 256) != 128) = true := bne_iff_ne.mpr c7
              obtain rfl := Option.some.inj H
              go_wp2
              go_ret
              exact ⟨by first | rfl | (simp; done) | (simp only [← hji3, ← hji5] <;> (first | rfl | simp)) | (simp [*]; done), by repeat (first | exact Drawn0.refl _ | apply Drawn0.step)⟩
        · rw [if_neg c4] at H
          exact absurd H (by simp)
      · rw [if_neg c2] at H
        have c2b0 : decide (x5_1 < 8) = false := decide_eq_false c2
        clear c2
        replace H := Option.bind_eq_some_iff.mp H
        obtain ⟨t102, A100, H⟩ := H
        replace H : (some (t102 == x3_1)) = some r := H
        have A10 := Aside0.mk A100
        clear A100
        obtain rfl := Option.some.inj H
        go_wp2_with (first | ((with_reducible refine gate_callee (f := 10) rfl ?_); refine goesL_ (some 23) rfl rfl Try.func10 (by kernel_rfl) rfl #[.int .u64 a0] rfl (by (try simp only [List.map_toArray, List.map_cons, List.map_nil]); first | done | rfl | (simp only [List.length_drop, List.length_take]; rfl)) ?_; (with_reducible refine (impl_Gather.calls a0 t102 _ A10.out).mono ?_); rintro e w' ⟨rfl, ⟨nd, rfl⟩⟩; refine ⟨_, rfl, ?_⟩))
        go_ret
        exact ⟨by first | rfl | (simp; done) | (simp [*]; done), by repeat (first | exact Drawn0.refl _ | apply Drawn0.step)⟩

/-- THE ONE PURE STATEMENT of laws_FnGather: yours. -/
def laws_FnGather.Pure : Prop := ∀ (a0 : Int), (Lit.int .u64 a0).wf = true → ∃ k, laws_FnGather.f k a0 = some true
theorem laws_FnGather.walk (P : laws_FnGather.Pure) (a0 : Int) (w : World) (w0 : (Lit.int .u64 a0).wf = true) :
    Calls Try.prog 4 #[.int .u64 a0] w fun e w' => e = .returned (.bool true) ∧ Below w.heap.size w w' := by
  obtain ⟨k, h⟩ := P a0 w0
  refine (laws_FnGather.calls k a0 true w h).mono ?_
  rintro e w' ⟨rfl, hd⟩
  exact ⟨rfl, hd.below⟩

end Go.Proofs.Ytoigokgechcaiaa.PFnGather
