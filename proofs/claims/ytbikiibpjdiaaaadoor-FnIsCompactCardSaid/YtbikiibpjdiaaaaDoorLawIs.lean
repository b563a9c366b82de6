/- FnIsCompact: bytes are told to be compact just where they are one value without a byte to leave out (at most 64 deep). -/
import Derived.Test.YtbikiibpjdiaaaaDoorFL
import Derived.Test.YtbikiibpjdiaaaaDoorQH1
namespace Go.Proofs.YtbikiibpjdiaaaaDoor.Err
open Go.RowKit Go.Proofs.YtbikiibpjdiaaaaDoorW.PrintWords Go.Proofs.YtbikiibpjdiaaaaDoorW.PrintLast Go.Proofs.YtbikiibpjdiaaaaDoorW.PrintMore
open Go.Proofs.YtbikiibpjdiaaaaDoor.Dig Go.Proofs.YtbikiibpjdiaaaaDoor.Tab Go.Proofs.YtbikiibpjdiaaaaDoor.QF Go.Proofs.YtbikiibpjdiaaaaDoor.QM Go.Proofs.YtbikiibpjdiaaaaDoor.QH
set_option linter.unusedVariables false
theorem high_l (l : List Int) (hl : l.length ≤ 70000000) : ∀ (n : Nat) (x : Int), 0 ≤ x → x ≤ l.length → (l.length : Int) - x = n → (∀ y : Int, 0 ≤ y → y < x → 32 ≤ rd l y) →
  ∃ r, spec_IsHigh.l0 (n + 1) l l.length x = some r ∧ (r = true → ∀ y : Int, 0 ≤ y → y < l.length → 32 ≤ rd l y) := by
 intro n
 induction n with
 | zero =>
  intro x h0 h1 hn h
  unfold spec_IsHigh.l0
  rw [if_neg (by omega)]
  exact ⟨true, rfl, fun _ y a b => h y a (by omega)⟩
 | succ n ih =>
  intro x h0 h1 hn h
  have e1 : wrap64 (x + 1) = x + 1 := by unfold wrap64; omega
  unfold spec_IsHigh.l0
  rw [if_pos (by omega), if_pos h0, if_pos (by omega), e1]
  split
  ·exact ⟨false, rfl, fun h => by cases h⟩
  ·exact ih (x + 1) (by omega) (by omega) (by omega) (fun y a b => by
    by_cases hy : y < x
    ·exact h y a hy
    ·rw [show y = x by omega]; omega)
theorem first_l (l : List Int) (hl : l.length ≤ 70000000) (c : Int) : ∀ (n : Nat) (x : Int), 0 ≤ x → x ≤ l.length → (l.length : Int) - x = n → (∀ y : Int, 0 ≤ y → y < x → rd l y ≠ c) →
  ∃ r, spec_FirstOf.l0 (n + 1) c l l.length x = some r ∧ (r < 0 → ∀ y : Int, 0 ≤ y → y < l.length → rd l y ≠ c) := by
 intro n
 induction n with
 | zero =>
  intro x h0 h1 hn h
  unfold spec_FirstOf.l0
  rw [if_neg (by omega)]
  exact ⟨-1, rfl, fun _ y a b => h y a (by omega)⟩
 | succ n ih =>
  intro x h0 h1 hn h
  have e1 : wrap64 (x + 1) = x + 1 := by unfold wrap64; omega
  unfold spec_FirstOf.l0
  rw [if_pos (by omega), if_pos h0, if_pos (by omega), e1]
  split
  ·exact ⟨x, rfl, fun h => by omega⟩
  ·rename_i hne
   exact ih (x + 1) (by omega) (by omega) (by omega) (fun y a b => by
    by_cases hy : y < x
    ·exact h y a hy
    ·rw [show y = x by omega]; exact hne)
section
variable {q : ByteArray → ByteArray} {N : Nat} {w w' : World} {A A1 : Option Addr} {c c1 : Nat} {l : List Int} {plain : Bool}
theorem same_f (ys : List Int) (hx : ∀ y ∈ l, 0 ≤ y ∧ y < 256) (hy : ∀ y ∈ ys, 0 ≤ y ∧ y < 256) : spec_Same.f ys l = some (decide (ys = l)) := by
 unfold spec_Same.f
 rw [str_eq ys (strOfNums l) hy, str_sb l hx]
/-- What highOk tells. -/
def HiAns (l : List Int) (plain : Bool) (w : World) (e : Ending) (w' : World) : Prop :=
 (∃ b : Bool, e = .returned (.bool b) ∧ (b = true → l.length ≤ 10000 ∧ (∀ y ∈ l, 32 ≤ y) ∧ (plain = true → ∀ y ∈ l, y ≠ 92))) ∧ Below w.heap.size w w'
/-- What is told, and what is due. -/
def RD (D : Int) (r d : Bool) : Prop := (r = true → d = true) ∧ (r = false → D ≤ 64 → d = false)
/-- What is compacted is bytes. -/
theorem ew_byte {L : List Int} {e : Int} (hT : Txt L) (he : e ≤ L.length) : ∀ (n : Nat) (x : Int), 0 ≤ x → ∀ y ∈ ew L false e n x, 0 ≤ y ∧ y < 256 := by
 intro n
 induction n with
 | zero => intro x h0 y hy; cases hy
 | succ n ih =>
  intro x h0 y hy
  unfold ew at hy
  split at hy
  ·rw [if_neg (fun h => by cases h.1), if_neg (fun h => by cases h.1)] at hy
   rcases List.mem_cons.1 hy with rfl | h
   ·exact hT.bytes x h0 (by omega)
   ·exact ih _ (by omega) y h
  ·cases hy
theorem cw_bytes {L : List Int} (hT : Txt L) : ∀ (n : Nat) (x : Int), 0 ≤ x → ∀ y ∈ cw q L false n x, 0 ≤ y ∧ y < 256 := by
 intro n
 induction n with
 | zero => intro x h0 y hy; cases hy
 | succ n ih =>
  intro x h0 y hy
  unfold cw at hy
  split at hy
  ·split at hy
   ·rename_i hq
    have hb := te_bound (q := q) hT h0 (by omega) hq
    rcases List.mem_append.1 hy with h | h
    ·exact ew_byte hT (by omega) _ _ h0 y h
    ·exact ih _ (by omega) y h
   split at hy
   ·exact ih _ (by omega) y hy
   ·rcases List.mem_cons.1 hy with rfl | h
    ·exact hT.bytes x h0 (by omega)
    ·exact ih _ (by omega) y h
  ·cases hy
set_option maxRecDepth 100000 in
set_option maxHeartbeats 16000000 in
theorem highOk (hC : Kd.C (Kd.int .u8) w A l.length l) (hcap : l.length ≤ c) (hby : ∀ y, y ∈ l → 0 ≤ y ∧ y < 256) (hl : l.length ≤ 2147483647) :
  Calls Tryd.prog 17 #[.slice A l.length c, .bool plain] w (HiAns l plain w) := by
 have HFEW : Aside0 (Calls Tryd.prog 10 #[.slice (some ⟨w.heap.size, 0, none⟩) 1 1] (w.alloc (.cells #[.slice A l.length c] 22)) fun e w' => e = .returned (.bool (decide (l.length ≤ 10000))) ∧ Drawn0 (w.alloc (.cells #[.slice A l.length c] 22)) w') := ⟨few1 (blk_new w _) hl⟩
 have HB0 : Aside0 (Below w.heap.size w (w.alloc (.cells #[.slice A l.length c] 22))) := ⟨below_alloc (Below.refl _ _) _⟩
 have HC := Aside0.mk hC
 by_cases z2 : l.length ≤ 10000
 case neg =>
  rw [decide_eq_false z2] at HFEW
  clear hl z2 hC
  go_enter Tryd.func17, Tryd.ntmps17
  go_wp2_with fail
  with_reducible refine HFEW.out.mono ?_
  rintro e w1 ⟨rfl, hd⟩
  have HB := Aside0.mk (below_step HB0.out hd.below)
  clear hd
  go_wp2_with fail
  go_ret
  exact ⟨⟨false, rfl, fun h => by cases h⟩, HB.out⟩
 rw [decide_eq_true z2] at HFEW
 obtain ⟨r1, h1, hp1⟩ := high_l l (by omega) l.length 0 (by omega) (by omega) (by omega) (fun y a b => by omega)
 obtain ⟨r2, h2, hp2⟩ := first_l l (by omega) 92 l.length 0 (by omega) (by omega) (by omega) (fun y a b => by omega)
 have HH : Aside0 (∀ W, Below w.heap.size w W → Calls Tryd.prog 30 #[.slice A l.length c] W fun e w' => e = .returned (.bool r1) ∧ Drawn0 W w') := ⟨fun W hb => spec_IsHigh.calls _ A c l r1 W (Kd.C_below hC hb) hcap h1⟩
 have HF : Aside0 (∀ W, Below w.heap.size w W → Calls Tryd.prog 31 #[.slice A l.length c, .int .u8 92] W fun e w' => e = .returned (.int .i64 r2) ∧ Drawn0 W w') := ⟨fun W hb => spec_FirstOf.calls _ A c l 92 r2 W (Kd.C_below hC hb) hcap h2⟩
 have HP : Aside0 (l.length ≤ 10000 ∧ (r1 = true → ∀ y ∈ l, 32 ≤ y) ∧ (r2 < 0 → ∀ y ∈ l, y ≠ 92)) := ⟨z2, fun h => mem_rd (hp1 h), fun h => mem_rd (p := fun y => y ≠ 92) (hp2 h)⟩
 clear hl z2 hC h1 h2 hp1 hp2
 go_enter Tryd.func17, Tryd.ntmps17
 go_wp2_with fail
 with_reducible refine HFEW.out.mono ?_
 rintro e w1 ⟨rfl, hd⟩
 have HB := Aside0.mk (below_step HB0.out hd.below)
 clear hd
 go_wp2_with fail
 with_reducible refine (HH.out _ HB.out).mono ?_
 rintro e w2 ⟨rfl, hd⟩
 have HB2 := Aside0.mk (below_step HB.out hd.below)
 clear hd
 obtain _ | _ := r1
 ·go_wp2_with fail
  go_ret
  exact ⟨⟨false, rfl, fun h => by cases h⟩, HB2.out⟩
 have HP1 := Aside0.mk (HP.out.2.1 rfl)
 obtain _ | _ := plain
 ·go_wp2_with fail
  go_ret
  exact ⟨⟨true, rfl, fun _ => ⟨HP.out.1, HP1.out, fun h => by cases h⟩⟩, HB2.out⟩
 ·go_wp2_with fail
  with_reducible refine (HF.out _ HB2.out).mono ?_
  rintro e w3 ⟨rfl, hd⟩
  have HB3 := Aside0.mk (below_step HB2.out hd.below)
  clear hd
  by_cases hr : r2 < 0
  ·have HP2 := Aside0.mk (HP.out.2.2 hr)
   have d2 : decide (r2 < 0) = true := decide_eq_true hr
   clear hr
   go_wp2_with fail
   go_ret
   exact ⟨⟨true, rfl, fun _ => ⟨HP.out.1, HP1.out, fun _ => HP2.out⟩⟩, HB3.out⟩
  ·have d2 : decide (r2 < 0) = false := decide_eq_false hr
   clear hr
   go_wp2_with fail
   go_ret
   exact ⟨⟨false, rfl, fun h => by cases h⟩, HB3.out⟩
set_option maxRecDepth 100000 in
set_option maxHeartbeats 16000000 in
theorem isDoor (h : Calls Tryd.prog 42 #[.slice A l.length c, .bool plain] w (IcAns q l w)) : Calls Tryd.prog 32 #[.slice A l.length c, .bool plain] w (IcAns q l w) := by
 have HA := Aside0.mk h
 clear h
 go_enter Tryd.func32, Tryd.ntmps32
 go_wp2_with fail
 with_reducible refine HA.out.mono ?_
 rintro e w1 ⟨⟨r, rfl, hr⟩, hb⟩
 have HR := Aside0.mk (And.intro hr hb)
 clear hr hb
 go_wp2_with fail
 go_ret
 exact ⟨⟨r, rfl, HR.out.1⟩, HR.out.2⟩
set_option maxRecDepth 100000 in
set_option maxHeartbeats 16000000 in
theorem implIs (hC : Kd.C (Kd.int .u8) w A l.length l) (hcap : l.length ≤ c) (hG : Glob w) (hl : l.length ≤ 10000) (hby : ∀ y, y ∈ l → 0 ≤ y ∧ y < 256) (h32 : ∀ y ∈ l, 32 ≤ y) (hp : plain = true → ∀ y ∈ l, y ≠ 92) :
  Calls Tryd.prog 18 #[.slice A l.length c, .bool plain] w (IcAns q l w) := by
 have HCP := Aside0.mk (ownCopy hC hcap (by omega))
 have HI : Aside0 (∀ W B k, Below w.heap.size w W → l.length ≤ k → Kd.C (Kd.int .u8) W B l.length l → Calls Tryd.prog 32 #[.slice B l.length k, .bool plain] W (IcAns q l W)) := ⟨fun W B k hb hk h => isDoor (isCompact h hk (hG.below hb) ⟨fun y hy => ⟨h32 y hy, (hby y hy).2⟩, by omega⟩ hp)⟩
 clear hC hG
 go_enter Tryd.func18, Tryd.ntmps18
 go_wp2_with fail
 with_reducible refine HCP.out.mono ?_
 rintro e w1 ⟨⟨v1, rfl, ho1⟩, hb1⟩
 obtain ⟨B, k, rfl, hk, hs⟩ := own_slice ho1
 have HB1 := Aside0.mk hb1
 have HA := Aside0.mk (HI.out w1 B k hb1 hk hs)
 clear ho1 hb1 hk hs
 go_wp2_with fail
 with_reducible refine HA.out.mono ?_
 rintro e w2 ⟨⟨r, rfl, hr⟩, hb⟩
 have HR := Aside0.mk (And.intro hr (below_step HB1.out hb))
 clear hr hb
 go_wp2_with fail
 go_ret
 exact ⟨⟨r, rfl, HR.out.1⟩, HR.out.2⟩
theorem good_due (h : Good q (l ++ [0])) : Due q l := ⟨good_ff h, by rw [good_cw (esc := false) h]; exact ewl_id (fun e => by cases e)⟩
set_option maxRecDepth 100000 in
set_option maxHeartbeats 16000000 in
theorem isLaw (h : LawIn q w none 0 [] A1 c1 l) : Calls Tryd.prog 5 #[.slice A1 l.length c1, .bool plain] w fun e w' => e = .returned (.bool true) ∧ Below w.heap.size w w' := by
 have hm1 := h.m1
 unfold maxLen at hm1
 have HH := Aside0.mk h
 clear h
 by_cases z1 : (l.length : Int) > 2147483647
 ·have b1 : decide ((2147483647 : Int) < (l.length : Int)) = true := decide_eq_true z1
  go_enter Tryd.func5, Tryd.ntmps5
  go_wp2_with fail
  go_ret
  exact ⟨rfl, Below.refl _ _⟩
 have b1 : decide ((2147483647 : Int) < (l.length : Int)) = false := decide_eq_false z1
 have HHO := Aside0.mk (highOk (plain := plain) HH.out.s1 HH.out.k1 HH.out.byt (by omega))
 clear hm1 z1
 go_enter Tryd.func5, Tryd.ntmps5
 go_wp2_with fail
 with_reducible refine HHO.out.mono ?_
 rintro e w1 ⟨⟨b, rfl, hb⟩, hb1⟩
 have HB1 := Aside0.mk hb1
 have HBB := Aside0.mk hb
 clear hb hb1
 obtain _ | _ := b
 ·go_wp2_with fail
  go_ret
  exact ⟨rfl, HB1.out⟩
 have HK := Aside0.mk (HBB.out rfl)
 clear HBB
 have HIS := Aside0.mk (implIs (q := q) (Kd.C_below HH.out.s1 HB1.out) HH.out.k1 (HH.out.G.tab.below HB1.out) HK.out.1 HH.out.byt HK.out.2.1 HK.out.2.2)
 have HIV : Aside0 (∀ W, Below w.heap.size w W → Calls Tryd.prog 12 #[.slice A1 l.length c1] W fun e w' => e = .returned (.bool (ff q l .val [] 0).isNone) ∧ Below W.heap.size W w') := ⟨fun W hb => isValue A1 c1 l W (HH.out.G.below hb) (Kd.C_below HH.out.s1 hb) HH.out.k1 HH.out.byt HK.out.1⟩
 have HDP : Aside0 (∀ W, Below w.heap.size w W → Calls Tryd.prog 19 #[.slice A1 l.length c1] W fun e w' => e = .returned (.int .i64 (dp q l .val [] 0)) ∧ Below W.heap.size W w') := ⟨fun W hb => depth A1 c1 l W (HH.out.G.below hb) (Kd.C_below HH.out.s1 hb) HH.out.k1 HH.out.byt HK.out.1⟩
 have HCO : Aside0 (∀ W, Below w.heap.size w W → Calls Tryd.prog 13 #[] W fun e w' => e = .returned (.bool true) ∧ Below W.heap.size W w') := ⟨fun W hb => compacts W (HH.out.G.tab.below hb)⟩
 obtain ⟨D, hD⟩ : ∃ D, D = dp q l .val [] 0 := ⟨_, rfl⟩
 rw [← hD] at HDP
 have HD := Aside0.mk hD
 clear hD
 go_upto_region 5 with (fail)
 go_cut [5, 6] from 14 to 41 (fun v5 v6 wx => ∃ r d : Bool, v5 = .bool r ∧ v6 = .bool d ∧ Aside0 (RD D r d) ∧ Aside0 (Below w.heap.size w wx))
 case first =>
  go_wp2_with fail
  with_reducible refine HIS.out.mono ?_
  rintro e w2 ⟨⟨r, rfl, hr1, hr2⟩, hb2⟩
  have HB2 := Aside0.mk (below_step HB1.out hb2)
  have HR : Aside0 ((r = true → Due q l) ∧ (r = false → D ≤ 64 → ¬ Due q l)) := ⟨⟨fun h => good_due (hr1 h), fun h hd => hr2 h (by rw [← HD.out]; exact hd)⟩⟩
  clear hr1 hr2 hb2
  cases hff : ff q l .val [] 0 with
  | some p =>
   rw [hff] at HIV
   have HIV2 : Aside0 (∀ W, Below w.heap.size w W → Calls Tryd.prog 12 #[.slice A1 l.length c1] W fun e w' => e = .returned (.bool false) ∧ Below W.heap.size W w') := HIV
   have HRD : Aside0 (RD D r false) := ⟨⟨fun h => (by have := (HR.out.1 h).1; rw [hff] at this; cases this), fun _ _ => rfl⟩⟩
   clear HIV hff
   go_wp2_with fail
   with_reducible refine (HIV2.out _ HB2.out).mono ?_
   rintro e w3 ⟨rfl, hb3⟩
   have HB3 := Aside0.mk (below_step HB2.out hb3)
   clear hb3
   go_wp2_with fail
   go_meet
   case rel => exact ⟨r, false, rfl, rfl, HRD, HB3⟩
  | none =>
   rw [hff] at HIV
   have HIV2 : Aside0 (∀ W, Below w.heap.size w W → Calls Tryd.prog 12 #[.slice A1 l.length c1] W fun e w' => e = .returned (.bool true) ∧ Below W.heap.size W w') := HIV
   obtain ⟨X, hX⟩ : ∃ X, X = cw q (l ++ [0]) false (l ++ [0]).length 0 := ⟨_, rfl⟩
   have HCM : Aside0 (∀ W, Below w.heap.size w W → Calls Tryd.prog 15 #[.slice A1 l.length c1, .bool false] W fun e w' => (∃ B k, e = .returned (.slice B X.length k) ∧ X.length ≤ k ∧ Kd.C (Kd.int .u8) w' B X.length X) ∧ Below W.heap.size W w') := ⟨fun W hb => by rw [hX]; exact compacted (HH.out.G.below hb) (Kd.C_below HH.out.s1 hb) HH.out.k1 HH.out.byt HK.out.1⟩
   have hXb : ∀ y ∈ X, 0 ≤ y ∧ y < 256 := by
    rw [hX]
    exact cw_bytes (q := q) (txt_of HH.out.byt (by have := HK.out.1; omega)) _ 0 (by omega)
   have HSA : Aside0 (∀ W B k, Below w.heap.size w W → X.length ≤ k → Kd.C (Kd.int .u8) W B X.length X → Calls Tryd.prog 16 #[.slice B X.length k, .slice A1 l.length c1] W fun e w' => e = .returned (.bool (decide (X = l))) ∧ Drawn0 W w') := ⟨fun W B k hb hk h1 => spec_Same.calls B k X A1 c1 l (decide (X = l)) W h1 hk (Kd.C_below HH.out.s1 hb) HH.out.k1 (same_f X HH.out.byt hXb)⟩
   have HRD : Aside0 (RD D r (decide (X = l))) := ⟨⟨fun h => decide_eq_true (by rw [hX]; exact (HR.out.1 h).2), fun h hd => decide_eq_false (fun e => HR.out.2 h hd ⟨hff, by rw [← hX]; exact e⟩)⟩⟩
   generalize decide (X = l) = dd at HSA HRD
   clear HIV hff hX hXb
   go_wp2_with fail
   with_reducible refine (HIV2.out _ HB2.out).mono ?_
   rintro e w3 ⟨rfl, hb3⟩
   have HB3 := Aside0.mk (below_step HB2.out hb3)
   clear hb3
   go_wp2_with fail
   with_reducible refine (HCM.out _ HB3.out).mono ?_
   rintro e w4 ⟨⟨B4, k4, rfl, hk4, hc4⟩, hb4⟩
   have HB4 := Aside0.mk (below_step HB3.out hb4)
   have HSM := Aside0.mk (HSA.out w4 B4 k4 HB4.out hk4 hc4)
   clear hb4 hk4 hc4
   go_wp2_with fail
   with_reducible refine HSM.out.mono ?_
   rintro e w5 ⟨rfl, hd5⟩
   have HB5 := Aside0.mk (below_step HB4.out hd5.below)
   clear hd5
   go_wp2_with fail
   go_meet
   case rel => exact ⟨r, dd, rfl, rfl, HRD, HB5⟩
 case rest =>
  obtain ⟨r, d, rfl, rfl, HRD, HB⟩ := hcut
  go_wp2_with fail
  with_reducible refine (HDP.out _ HB.out).mono ?_
  rintro e w6 ⟨rfl, hb6⟩
  have HB6 := Aside0.mk (below_step HB.out hb6)
  clear hb6
  by_cases h64 : 64 < D
  ·have d6 : decide (64 < D) = true := decide_eq_true h64
   clear h64
   obtain _ | _ := r
   ·go_wp2_with fail
    with_reducible refine (HCO.out _ HB6.out).mono ?_
    rintro e w7 ⟨rfl, hb7⟩
    have HB7 := Aside0.mk (below_step HB6.out hb7)
    clear hb7
    go_wp2_with fail
    go_ret
    exact ⟨rfl, HB7.out⟩
   ·have hd := HRD.out.1 rfl
    subst hd
    go_wp2_with fail
    with_reducible refine (HCO.out _ HB6.out).mono ?_
    rintro e w7 ⟨rfl, hb7⟩
    have HB7 := Aside0.mk (below_step HB6.out hb7)
    clear hb7
    go_wp2_with fail
    go_ret
    exact ⟨rfl, HB7.out⟩
  ·have d6 : decide (64 < D) = false := decide_eq_false h64
   have hrd : r = d := by
    obtain _ | _ := r
    ·exact (HRD.out.2 rfl (by omega)).symm
    ·exact (HRD.out.1 rfl).symm
   subst hrd
   clear h64
   obtain _ | _ := r
   all_goals
    go_wp2_with fail
    with_reducible refine (HCO.out _ HB6.out).mono ?_
    rintro e w7 ⟨rfl, hb7⟩
    have HB7 := Aside0.mk (below_step HB6.out hb7)
    clear hb7
    go_wp2_with fail
    go_ret
    exact ⟨rfl, HB7.out⟩
end
theorem is_walk (a0 : Option Addr) (len0 cap0 : Nat) (z0 : List Int) (b1 : Bool) (w : World) (w0 : (a0 = none ∧ len0 = 0 ∧ cap0 = 0 ∧ z0 = []) ∨ ∃ x, a0 = some x ∧ len0 ≤ cap0 ∧ cap0 ≤ maxLen ∧ z0.length = cap0 ∧ (∀ i, i < z0.length → w.cell? (x.add i) = some (.int .u8 (z0.getD i 0))) ∧ ∀ n ∈ z0, (Lit.int .u8 n).wf = true) (y0 : len0 * 1 ≤ 140737488351232) {q : ByteArray → ByteArray} (hG : G q w) :
  Calls Tryd.prog 5 #[.slice a0 len0 cap0, .bool b1] w fun e w' => e = .returned (.bool true) ∧ Below w.heap.size w w' := by
 obtain ⟨l0, rfl, hr0, hm0, hw0, hc0⟩ := ReadsInt.ofRowC w0
 exact isLaw ⟨nil_C w, Nat.le_refl _, Kd.C_of_reads (d := (0 : Int)) (h1 := fun _ => rfl) hr0, hc0, (fun x hx => by have := bytes_of l0 hw0 x hx; omega), hG, by decide, hm0⟩
end Go.Proofs.YtbikiibpjdiaaaaDoor.Err
