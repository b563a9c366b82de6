/- FnCompoundEnd: the bracket that closes another is found by however many bytes it is looked for at a time. -/
import Derived.Test.YtfkagnpdapkaaaaDoorCompV
import Derived.Test.YtfkagnpdapkaaaaDoorScM
import Derived.Test.YtfkagnpdapkaaaaDoorScG
import Derived.Test.YtfkagnpdapkaaaaDoorQX1
namespace Go.Proofs.YtfkagnpdapkaaaaDoor.Err
open Go.RowKit Go.Proofs.YtfkagnpdapkaaaaDoorW.PrintWords Go.Proofs.YtfkagnpdapkaaaaDoorW.PrintLast Go.Proofs.YtfkagnpdapkaaaaDoorW.PrintMore
open Go.Proofs.YtfkagnpdapkaaaaDoor.Dig Go.Proofs.YtfkagnpdapkaaaaDoor.Tab Go.Proofs.YtfkagnpdapkaaaaDoor.QF Go.Proofs.YtfkagnpdapkaaaaDoor.QX Go.Proofs.YtfkagnpdapkaaaaDoor.Bit
set_option linter.unusedVariables false
set_option maxRecDepth 100000 in
set_option maxHeartbeats 4000000 in
/-- The copy of an input has room for itself alone. -/
theorem newInputC (A : Option Addr) (c : Nat) (l : List Int) (w : World) (hC : Kd.C (Kd.int .u8) w A l.length l) (hcap : l.length ≤ c) (hb : ∀ x, x ∈ l → 0 ≤ x ∧ x < 256) (hl : l.length ≤ 10000) :
    Calls Tryd.prog 75 #[.slice A l.length c] w fun e w' => ∃ ad, e = .returned (.slice (some ad) (l ++ [0]).length (l ++ [0]).length) ∧ Buf w' ad (l ++ [0]).length (l ++ [0]) ∧ Below w.heap.size w w' := by
  have HC := Aside0.mk hC
  have HBY := Aside0.mk hb
  obtain ⟨m, hm⟩ : ∃ m, m = l.length + 1 := ⟨_, rfl⟩
  have hmc : (l.length : Int) + 1 = (m : Int) := by omega
  have HMK := print_make (P := Tryd.prog) 22 5 .u8 1 Tryd.underlying22 (by kernel_rfl) (by omega) m (by omega)
  have HM := Aside0.mk hm
  have hlm : l.length ≤ m ∧ m ≤ 10001 := by omega
  clear hC hb hm
  go_enter Tryd.func75, Tryd.ntmps75
  go_wp2_with ((with_reducible refine gate_builtin (b := .copy) (xs := #[.tmp 8, .tmp 9]) rfl ?_); refine wpList_copy_splice rfl (.tmp 8) (.tmp 9) 22 22 rfl 5 Tryd.underlying22 (by kernel_rfl) (some ⟨w.heap.size, 0, none⟩) A m m l.length c rfl rfl w.heap.size 0 (madeCells #[Value.int IntKind.u8 0] m).toList 5 ?hg (nums .u8 l) ?hn ?hpos ?hfit ?h1 w.heap.size w ?hb (Nat.le_refl _) ?_; (case hg => exact blk_new w _); (case hn => rw [nums_length]; exact (Nat.min_eq_left hlm.1).symm); (case hpos => exact copy_src HC.out); (case hfit => rw [nums_length]; simp [size_madeCells]; omega); (case h1 => intro v hv; exact nums_cell hv); (case hb => exact below_alloc (Below.refl _ _) _); intro w1 hw1 hb1; have HW1 := Aside0.mk hw1; have HB1 := Aside0.mk hb1; clear hw1 hb1)
  go_ret
  have hm := HM.out
  subst hm
  have hlen : (l ++ [(0 : Int)]).length = l.length + 1 := by rw [List.length_append]; rfl
  refine ⟨⟨w.heap.size, 0, none⟩, by rw [hlen]; rfl, ?_, HB1.out⟩
  have hB := buf_made HBY.out hl HW1.out
  rw [hlen]
  exact hB
set_option maxRecDepth 100000 in
theorem inputC (A : Option Addr) (c : Nat) (l : List Int) (w : World) (hC : Kd.C (Kd.int .u8) w A l.length l) (hcap : l.length ≤ c) (hb : ∀ x, x ∈ l → 0 ≤ x ∧ x < 256) (hl : l.length ≤ 10000) :
    Calls Tryd.prog 51 #[.slice A l.length c] w fun e w' => ∃ ad L, e = .returned (.slice (some ad) L.length L.length) ∧ Aside0 (L = l ++ [0]) ∧ Buf w' ad L.length L ∧ Below w.heap.size w w' := by
  have HI := Aside0.mk (newInputC A c l w hC hcap hb hl)
  clear hC hb
  go_enter Tryd.func51, Tryd.ntmps51
  go_wp2_with fail
  with_reducible refine HI.out.mono ?_
  rintro e w' ⟨ad, rfl, hB, hb⟩
  obtain ⟨L, hL⟩ : ∃ L, L = l ++ [0] := ⟨_, rfl⟩
  rw [← hL] at hB ⊢
  have HL := Aside0.mk hL
  have HB := Aside0.mk hB
  have HBB := Aside0.mk hb
  clear hB hb hL
  go_wp2_with fail
  go_ret
  exact ⟨ad, L, rfl, HL, HB.out, HBB.out⟩
/-- What CompoundEnd answers. -/
def EndAns (L : List Int) (fr : Int) (w : World) (e : Ending) (w' : World) : Prop :=
  Below w.heap.size w w' ∧ ((∃ m : Nat, fr + m < L.length ∧ ShutAt (from_ L fr) m ∧ e = .returned (.tuple #[.int .i64 (fr + m + 1), .bool true])) ∨
    ∃ m : Nat, fr + m = L.length ∧ Live (from_ L fr) m ∧ e = .returned (.tuple #[.int .i64 0, .bool false]))
set_option maxRecDepth 100000 in
set_option maxHeartbeats 8000000 in
theorem compoundEnd (ad : Addr) (L : List Int) (fr step : Int) (w : World) (hB : Buf w ad L.length L) (hGL : Glob w) (hf : 0 ≤ fr) (hlt : fr < L.length) (hs0 : 0 ≤ step) (hs1 : step ≤ 10000) :
    Calls Tryd.prog 56 #[.slice (some ad) L.length L.length, .int .i64 fr, .int .i64 step] w (EndAns L fr w) := by
  have hsm := hB.small
  have HSC : Aside0 (∀ (n : Nat) (q : Int) (W : World), Below w.heap.size w W → fr + n < q → q ≤ L.length → Live (from_ L fr) n → ScB W w.heap.size (dS (from_ L fr) n) (iS (from_ L fr) n) (eS (from_ L fr) n) →
      Calls Tryd.prog 82 #[.pointer (some ⟨w.heap.size, 0, none⟩), .slice (some ad) L.length L.length, .int .i64 (fr + n), .int .i64 q] W (CompAns L fr w.heap.size n q w)) := ⟨fun n q W hb h1 h2 h3 h4 => scan ad L.length L fr w.heap.size n q w W hB hGL hb (Nat.le_refl _) rfl hf h1 h2 h3 h4⟩
  clear hB hGL
  go_enter Tryd.func56, Tryd.ntmps56
  go_wp2_with fail
  go_loopg [10] (L.length + 1) (fun kq v10 w' => ∃ (p : Int), v10 = .int .i64 p ∧ Aside0 (∃ m : Nat, p = fr + m ∧ p ≤ L.length ∧ (L.length : Int) + 1 ≤ p + kq ∧ Live (from_ L fr) m ∧ ScB w' w.heap.size (dS (from_ L fr) m) (iS (from_ L fr) m) (eS (from_ L fr) m)) ∧ Aside0 (Below w.heap.size w w'))
  case atStart => exact ⟨fr, rfl, ⟨0, by omega, by omega, by omega, Live.zero _, blk_new w _⟩, ⟨below_alloc (Below.refl _ _) _⟩⟩
  case round =>
    obtain ⟨p, rfl, HA, HBW⟩ := hrel
    obtain ⟨m, hm, hp1, hk, hlv, hsc⟩ := HA.out
    by_cases hpl : p < L.length
    rotate_left
    · have HL := Aside0.mk hlv
      clear HA hlv hsc
      go_wp2_with fail
      go_ret2
      exact ⟨HBW.out, .inr ⟨m, by omega, HL.out, rfl⟩⟩
    subst hm
    have hws : wrap64 (fr + m + step) = fr + m + step := by unfold wrap64; omega
    obtain _ | g0 := gk
    · exfalso; omega
    have HCALL : Aside0 (∀ q, fr + m < q → q ≤ L.length → Calls Tryd.prog 82 #[.pointer (some ⟨w.heap.size, 0, none⟩), .slice (some ad) L.length L.length, .int .i64 (fr + m), .int .i64 q] wr (CompAns L fr w.heap.size m q w)) := ⟨fun q h1 h2 => HSC.out m q wr HBW.out h1 h2 hlv hsc⟩
    clear HA hlv hsc
    go_wp2_with fail
    all_goals
      with_reducible refine (HCALL.out _ (by omega) (by omega)).mono ?_
      rintro e w2 ⟨hb2, ⟨m', h1, h2, h3, rfl⟩ | ⟨m', h1, h2, h3, h4, rfl⟩⟩
      · have HB2 := Aside0.mk hb2
        have HSH := Aside0.mk h3
        clear hb2 h3
        go_wp2_with fail
        go_ret2
        exact ⟨HB2.out, .inl ⟨m', by omega, HSH.out, rfl⟩⟩
      · have HB2 := Aside0.mk hb2
        have HL2 := Aside0.mk h3
        have HS2 := Aside0.mk h4
        clear hb2 h3 h4
        go_wp2_with fail
        go_roundg g0
        case measure => omega
        case rel => exact ⟨fr + m', rfl, ⟨m', rfl, by omega, by omega, HL2.out, HS2.out⟩, HB2⟩
set_option maxRecDepth 100000 in
set_option maxHeartbeats 4000000 in
theorem impl25 (A : Option Addr) (c : Nat) (l : List Int) (fr step : Int) (w : World) (hGL : Glob w) (hC : Kd.C (Kd.int .u8) w A l.length l) (hcap : l.length ≤ c) (hb : ∀ y, y ∈ l → 0 ≤ y ∧ y < 256) (hl : l.length ≤ 10000) (hf : 0 ≤ fr) (hlt : fr < l.length) (hs0 : 0 ≤ step) (hs1 : step ≤ 10000) :
    Calls Tryd.prog 25 #[.slice A l.length c, .int .i64 fr, .int .i64 step] w (EndAns (l ++ [0]) fr w) := by
  have HI := Aside0.mk (inputC A c l w hC hcap hb hl)
  have HGL := Aside0.mk hGL
  have HLEN : Aside0 (∀ L, L = l ++ [0] → (L.length : Int) = l.length + 1) := ⟨fun L h => by rw [h, List.length_append]; rfl⟩
  clear hC hb hGL
  go_enter Tryd.func25, Tryd.ntmps25
  go_wp2_with fail
  with_reducible refine HI.out.mono ?_
  rintro e w1 ⟨ad, L, rfl, HL, hB1, hb1⟩
  have HC := Aside0.mk (compoundEnd ad L fr step w1 hB1 (HGL.out.below hb1) hf (by have := HLEN.out L HL.out; omega) hs0 hs1)
  have HB1 := Aside0.mk hb1
  clear hB1 hb1
  go_wp2_with fail
  with_reducible refine HC.out.mono ?_
  rintro e w2 ⟨hb2, ⟨m, h1, h2, rfl⟩ | ⟨m, h1, h2, rfl⟩⟩
  · have HB2 := Aside0.mk (below_step HB1.out hb2)
    have HM := Aside0.mk (And.intro h1 h2)
    clear hb2 h1 h2
    go_wp2_with fail
    go_ret2
    exact ⟨HB2.out, .inl ⟨m, by rw [← HL.out]; exact HM.out.1, by rw [← HL.out]; exact HM.out.2, rfl⟩⟩
  · have HB2 := Aside0.mk (below_step HB1.out hb2)
    have HM := Aside0.mk (And.intro h1 h2)
    clear hb2 h1 h2
    go_wp2_with fail
    go_ret2
    exact ⟨HB2.out, .inr ⟨m, by rw [← HL.out]; exact HM.out.1, by rw [← HL.out]; exact HM.out.2, rfl⟩⟩
theorem comp_join {l : List Int} {fr : Nat} {r : Int × Bool × Bool} (h : CompSaid l fr r) (h3 : r.2.2 = true) :
    (∀ m : Nat, (fr : Int) + m < (l ++ [(0 : Int)]).length → ShutAt (from_ (l ++ [0]) fr) m → r.2.1 = true ∧ r.1 = fr + m + 1) ∧ (∀ m : Nat, (fr : Int) + m = (l ++ [(0 : Int)]).length → Live (from_ (l ++ [0]) fr) m → r.2.1 = false) := by
  have hlen : ((l ++ [(0 : Int)]).length : Int) = l.length + 1 := by rw [List.length_append]; rfl
  obtain ⟨hy, hn⟩ := h h3
  refine ⟨fun m h1 h2 => ?_, fun m h1 h2 => ?_⟩
  · cases hr : r.2.1
    · obtain ⟨n, h4, h5⟩ := hn hr
      have h6 := h4.shut_le h2
      have h7 : ((fr : Int) + m) = l.length := by omega
      have h8 : from_ (l ++ [0]) fr m = 0 := by
        unfold from_
        rw [h7]
        exact rd_last l 0
      have h9 := h2.2.1
      unfold cS at h9
      rw [h8] at h9
      cases h9
    · obtain ⟨n, h4, h5, h6⟩ := hy hr
      obtain rfl := h2.uniq h4
      exact ⟨rfl, h6⟩
  · cases hr : r.2.1
    · rfl
    · obtain ⟨n, h4, h5, h6⟩ := hy hr
      have := h2.shut_le h4
      omega
theorem fitsC (A : Option Addr) (c : Nat) (l : List Int) (i : Int) (w : World) (hC : Kd.C (Kd.int .u8) w A l.length l) (hcap : l.length ≤ c) : Calls Tryd.prog 24 #[.slice A l.length c, .int .i64 i] w fun e w' => e = .returned (.bool (decide (l.length ≤ 10000 ∧ 0 ≤ i ∧ i ≤ l.length))) ∧ Drawn0 w w' := by
  refine laws_fits.calls A c l i _ w hC hcap ?_
  unfold laws_fits.f
  by_cases h1 : (l.length : Int) ≤ 10000
  · rw [if_pos h1]
    by_cases h2 : i ≥ 0
    · rw [if_pos h2]
      congr 1
      rw [Bool.eq_iff_iff]
      simp
      omega
    · rw [if_neg h2, decide_eq_false (by omega)]
  · rw [if_neg h1, decide_eq_false (by omega)]
set_option maxRecDepth 100000 in
set_option maxHeartbeats 8000000 in
theorem compLaw (q : ByteArray → ByteArray) (A : Option Addr) (c : Nat) (l : List Int) (i step : Int) (w : World) (hG : G q w) (hC : Kd.C (Kd.int .u8) w A l.length l) (hcap : l.length ≤ c) (hb : ∀ y, y ∈ l → 0 ≤ y ∧ y < 256) (hm : l.length ≤ maxLen) :
    Calls Tryd.prog 5 #[.slice A l.length c, .int .i64 i, .int .i64 step] w fun e w' => e = .returned (.bool true) ∧ Below w.heap.size w w' := by
  unfold maxLen at hm
  have HF : Aside0 (∀ W, Below w.heap.size w W → Calls Tryd.prog 24 #[.slice A l.length c, .int .i64 i] W fun e w' => e = .returned (.bool (decide (l.length ≤ 10000 ∧ 0 ≤ i ∧ i ≤ l.length))) ∧ Drawn0 W w') := ⟨fun W hW => fitsC A c l i W (Kd.C_below hC hW) hcap⟩
  have HC := Aside0.mk hC
  have HBY := Aside0.mk hb
  have HG := Aside0.mk hG
  clear hC hb hG
  by_cases z1 : (l.length : Int) > 2147483647
  · go_enter Tryd.func5, Tryd.ntmps5
    go_wp2_with fail
    all_goals
      go_ret
      exact ⟨rfl, Below.refl _ _⟩
  by_cases z2 : l.length ≤ 10000 ∧ 0 ≤ i ∧ i ≤ l.length
  rotate_left
  · have HF2 : Aside0 (∀ W, Below w.heap.size w W → Calls Tryd.prog 24 #[.slice A l.length c, .int .i64 i] W fun e w' => e = .returned (.bool false) ∧ Drawn0 W w') := ⟨fun W hW => by have := HF.out W hW; rw [decide_eq_false z2] at this; exact this⟩
    clear z2
    go_enter Tryd.func5, Tryd.ntmps5
    go_wp2_with fail
    with_reducible refine (HF2.out _ (Below.refl _ _)).mono ?_
    rintro e w1 ⟨rfl, ⟨m1, rfl⟩⟩
    go_wp2_with fail
    go_ret
    exact ⟨rfl, pw_below_drewN (Below.refl _ _) _⟩
  have HF2 : Aside0 (∀ W, Below w.heap.size w W → Calls Tryd.prog 24 #[.slice A l.length c, .int .i64 i] W fun e w' => e = .returned (.bool true) ∧ Drawn0 W w') := ⟨fun W hW => by have := HF.out W hW; rw [decide_eq_true z2] at this; exact this⟩
  obtain ⟨z3, z4, z5⟩ := z2
  clear HF
  by_cases z6 : i = l.length
  · subst z6
    go_enter Tryd.func5, Tryd.ntmps5
    go_wp2_with fail
    with_reducible refine (HF2.out _ (Below.refl _ _)).mono ?_
    rintro e w1 ⟨rfl, ⟨m1, rfl⟩⟩
    go_wp2_with fail
    go_ret
    exact ⟨rfl, pw_below_drewN (Below.refl _ _) _⟩
  obtain ⟨ad, rfl, hx⟩ := Kd.at_int HC.out i z4 (by omega)
  have f6 : (i == (l.length : Int)) = false := beq_eq_false_iff_ne.mpr z6
  by_cases z7 : rd l i = 123 ∨ rd l i = 91
  rotate_left
  · have g1 : (rd l i == 123) = false := beq_eq_false_iff_ne.mpr fun h => z7 (.inl h)
    have g2 : (rd l i == 91) = false := beq_eq_false_iff_ne.mpr fun h => z7 (.inr h)
    have g3 : (rd l i != 123) = true := bne_iff_ne.mpr fun h => z7 (.inl h)
    have g4 : (rd l i != 91) = true := bne_iff_ne.mpr fun h => z7 (.inr h)
    clear z7
    go_enter Tryd.func5, Tryd.ntmps5
    go_wp2_with fail
    with_reducible refine (HF2.out _ (Below.refl _ _)).mono ?_
    rintro e w1 ⟨rfl, ⟨m1, rfl⟩⟩
    go_wp2_with fail
    go_ret
    exact ⟨rfl, pw_below_drewN (Below.refl _ _) _⟩
  by_cases z8 : step < 0 ∨ step > 10000
  · rcases z7 with z7 | z7
    all_goals
      rw [z7] at hx
      rcases z8 with z8 | z8
      all_goals
        go_enter Tryd.func5, Tryd.ntmps5
        go_wp2_with fail
        with_reducible refine (HF2.out _ (Below.refl _ _)).mono ?_
        rintro e w1 ⟨rfl, ⟨m1, rfl⟩⟩
        go_wp2_with fail
        all_goals
          go_ret
          exact ⟨rfl, pw_below_drewN (Below.refl _ _) _⟩
  obtain ⟨fr, rfl⟩ := Int.eq_ofNat_of_zero_le z4
  rw [Int.toNat_natCast] at hx
  have s0 : 0 ≤ step := by omega
  have s1 : step ≤ 10000 := by omega
  have s2 : decide (step < 0) = false := decide_eq_false (by omega)
  have s3 : decide (step > 10000) = false := decide_eq_false (by omega)
  have s4 : decide (10000 < step) = false := decide_eq_false (by omega)
  have HI : Aside0 (∀ W, Below w.heap.size w W → Calls Tryd.prog 25 #[.slice (some ad) l.length c, .int .i64 fr, .int .i64 step] W (EndAns (l ++ [0]) fr W)) := ⟨fun W hW => impl25 _ c l fr step W (HG.out.tab.below hW) (Kd.C_below HC.out hW) hcap HBY.out z3 (by omega) (by omega) s0 s1⟩
  obtain ⟨⟨r1, r2, r3⟩, hsaid, hspec⟩ := comp_said (some ad) c l fr hcap z3 (by omega)
  have HS : Aside0 (∀ W, Below w.heap.size w W → Calls Tryd.prog 26 #[.slice (some ad) l.length c, .int .i64 fr] W fun e w' => e = .returned (.tuple #[.int .i64 r1, .bool r2, .bool r3]) ∧ Drawn0 W w') := ⟨fun W hW => hspec W (Kd.C_below HC.out hW)⟩
  have HJ : Aside0 (r3 = true → (∀ m : Nat, (fr : Int) + m < (l ++ [(0 : Int)]).length → ShutAt (from_ (l ++ [0]) fr) m → r2 = true ∧ r1 = fr + m + 1) ∧ (∀ m : Nat, (fr : Int) + m = (l ++ [(0 : Int)]).length → Live (from_ (l ++ [0]) fr) m → r2 = false)) := ⟨fun h => comp_join hsaid h⟩
  have HOR : Aside0 (∀ e w', EndAns (l ++ [0]) fr w' e w' → True) := ⟨fun _ _ _ => trivial⟩
  clear hspec hsaid HOR
  rcases z7 with z7 | z7
  all_goals
    rw [z7] at hx
    clear z7 z8
    go_enter Tryd.func5, Tryd.ntmps5
    go_wp2_with fail
    with_reducible refine (HF2.out _ (Below.refl _ _)).mono ?_
    rintro e w1 ⟨rfl, ⟨m1, rfl⟩⟩
    go_wp2_with fail
    with_reducible refine (HI.out _ (pw_below_drewN (Below.refl _ _) _)).mono ?_
    rintro e w2 ⟨hb2, hor⟩
    have HB2 := Aside0.mk (below_step (pw_below_drewN (Below.refl w.heap.size w) _) hb2)
    obtain ⟨e1, e2, rfl, hor⟩ : ∃ (e1 : Int) (e2 : Bool), e = .returned (.tuple #[.int .i64 e1, .bool e2]) ∧ Aside0 (r3 = true → e2 = r2 ∧ (r2 = true → e1 = r1)) := by
      rcases hor with ⟨m, h1, h2, rfl⟩ | ⟨m, h1, h2, rfl⟩
      · exact ⟨_, _, rfl, ⟨fun h => by obtain ⟨a, b⟩ := (HJ.out h).1 m h1 h2; exact ⟨a.symm, fun _ => b.symm⟩⟩⟩
      · exact ⟨_, _, rfl, ⟨fun h => by have a := (HJ.out h).2 m h1 h2; exact ⟨a.symm, fun h2 => by rw [a] at h2; cases h2⟩⟩⟩
    clear hb2
    go_wp2_with fail
    with_reducible refine (HS.out _ HB2.out).mono ?_
    rintro e w3 ⟨rfl, ⟨m3, rfl⟩⟩
    cases r3 with
    | true =>
      obtain ⟨rfl, hr⟩ := hor.out rfl
      cases e2 with
      | true =>
        obtain rfl := hr rfl
        clear hor
        go_wp2_with fail
        go_ret
        exact ⟨rfl, by repeat (first | exact HB2.out | apply pw_below_drewN)⟩
      | false =>
        clear hor hr
        go_wp2_with fail
        go_ret
        exact ⟨rfl, by repeat (first | exact HB2.out | apply pw_below_drewN)⟩
    | false =>
      clear hor
      go_wp2_with fail
      with_reducible refine (works q _ (HG.out.below (by repeat (first | exact HB2.out | apply pw_below_drewN)))).mono ?_
      rintro e w4 ⟨rfl, hb4⟩
      have HB4 := Aside0.mk (below_step (show Below w.heap.size w (w2.drewN m3) by repeat (first | exact HB2.out | apply pw_below_drewN)) hb4)
      clear hb4
      go_wp2_with fail
      go_ret
      exact ⟨rfl, HB4.out⟩
theorem comp_walk (a0 : Option Addr) (len0 cap0 : Nat) (z0 : List Int) (a1 a2 : Int) (w : World) (w0 : (a0 = none ∧ len0 = 0 ∧ cap0 = 0 ∧ z0 = []) ∨ ∃ x, a0 = some x ∧ len0 ≤ cap0 ∧ cap0 ≤ maxLen ∧ z0.length = cap0 ∧ (∀ i, i < z0.length → w.cell? (x.add i) = some (.int .u8 (z0.getD i 0))) ∧ ∀ n ∈ z0, (Lit.int .u8 n).wf = true) (y0 : len0 * 1 ≤ 140737488351232) (w1 : (Lit.int .i64 a1).wf = true) (w2 : (Lit.int .i64 a2).wf = true) (hG : G Laid.goQ w) :
    Calls Tryd.prog 5 #[.slice a0 len0 cap0, .int .i64 a1, .int .i64 a2] w fun e w' => e = .returned (.bool true) ∧ Below w.heap.size w w' := by
  obtain ⟨l0, rfl, hr0, hm0, hw0, hc0⟩ := ReadsInt.ofRowC w0
  exact compLaw Laid.goQ _ _ l0 a1 a2 w hG (Kd.C_of_reads (d := (0 : Int)) (h1 := fun _ => rfl) hr0) hc0 (fun x hx => by have := bytes_of l0 hw0 x hx; omega) hm0
end Go.Proofs.YtfkagnpdapkaaaaDoor.Err
