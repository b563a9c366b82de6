/- An object or an array where the depth is above the limit: both ways tell the fault of the depth at its bracket. -/
import Derived.Test.YtfkagnpdapkaaaaDoorValZ
import Derived.Test.YtfkagnpdapkaaaaDoorGramZ
namespace Go.Proofs.YtfkagnpdapkaaaaDoor.Err
open Go.RowKit Go.Proofs.YtfkagnpdapkaaaaDoorW.PrintWords Go.Proofs.YtfkagnpdapkaaaaDoorW.PrintLast Go.Proofs.YtfkagnpdapkaaaaDoorW.PrintMore
open Go.Proofs.YtfkagnpdapkaaaaDoor.Tab Go.Proofs.YtfkagnpdapkaaaaDoor.QF
set_option linter.unusedVariables false
/-- The fault of the depth at a place. -/
def deepSE (q : ByteArray → ByteArray) (L : List Int) (z : Int) : SE := ⟨badWords q (rd L z) ⟨#[101, 120, 99, 101, 101, 100, 101, 100, 32, 109, 97, 120, 32, 100, 101, 112, 116, 104]⟩, z + 1, false, 0⟩
theorem depthSyntaxError (q : ByteArray → ByteArray) (ad : Addr) (c : Nat) (L : List Int) (z : Int) (w : World) (hG : G q w) (hB : Buf w ad c L) (h0 : 0 ≤ z) (h1 : z < L.length) :
    Calls Tryd.prog 123 #[.slice (some ad) L.length c, .int .i64 z] w (Gives w (deepSE q L z)) := by
  have HC := Aside0.mk (invalidCharacter q ad c L z ⟨#[101, 120, 99, 101, 101, 100, 101, 100, 32, 109, 97, 120, 32, 100, 101, 112, 116, 104]⟩ w hG hB h0 h1 (by decide))
  clear hG hB
  go_enter Tryd.func123, Tryd.ntmps123
  go_wp2_with fail
  with_reducible refine HC.out.mono ?_
  rintro e w' ⟨g, rfl, hg, hp, hb⟩
  have HP := Aside0.mk hp
  have HB := Aside0.mk hb
  clear hp hb
  go_wp2_with fail
  go_ret
  exact ⟨_, rfl, ⟨g, rfl, HP.out⟩, HB.out⟩
set_option maxRecDepth 100000 in
set_option maxHeartbeats 8000000 in
theorem gramDeep (q : ByteArray → ByteArray) (ad : Addr) (c : Nat) (L : List Int) (x z n : Int) (w : World) (hG : G q w) (hB : Buf w ad c L) (h0 : 0 ≤ x) (hn0 : 9223372036854755807 ≤ n) (hn1 : n ≤ 9223372036854775807) (hz : RunTo isBlank L x z) (hbr : rd L z = 123 ∨ rd L z = 91) :
    Calls Tryd.prog 88 #[.slice (some ad) L.length c, .int .i64 x, .int .i64 n, .int .i64 0, .int .u64 0, .int .u8 0] w (Told (.fault (deepSE q L z)) w) := by
  have hwn : wrap64 (10000 - n) = 10000 - n := by unfold wrap64; omega
  have hsm := hB.small
  have hxz := hz.le
  have hzl := hz.lt
  have HZ := Aside0.mk hz
  have HBR := Aside0.mk hbr
  have HT := Aside0.mk hB.txt
  have HB := Aside0.mk hB
  have HG := Aside0.mk hG
  obtain ⟨Qx, hQx⟩ : ∃ Qx, Qx = bodyPost Tryd.prog Tryd.f88 (Told (.fault (deepSE q L z)) w) := ⟨_, rfl⟩
  have HR : Aside0 (∀ a' w', RG (.fault (deepSE q L z)) w a' w' → Qx .ret a' w') := ⟨fun a' w' h => by rw [hQx]; exact rg_told h⟩
  clear hB hG hz hbr
  go_enter Tryd.func88, Tryd.ntmps88
  rw [← hQx]
  clear hQx
  refine wp_seq ?_
  go_wp2_with fail
  refine wp_scope_labels (fun n' l a' w' => False) ?_ (fun n' l a' w' h => h.elim)
  obtain ⟨Qj, hQj⟩ : ∃ Qj, Qj = jumps (fun l a w' => ∃ n' : Nat, False) Qx := ⟨_, rfl⟩
  rw [← hQj]
  have HRJ : Aside0 (∀ a' w', RG (.fault (deepSE q L z)) w a' w' → Qj .ret a' w') := ⟨fun a' w' h => by rw [hQj]; exact HR.out a' w' h⟩
  clear hQj HR
  go_upto_block 0 with (fail)
  rename_i KL hKL
  refine wp_label (hKL _ _ ?_)
  clear hKL
  go_wp2_with fail
  go_loopg [1] (L.length) (fun kq v1 w' => ∃ (y : Int), v1 = .int .i64 y ∧ Aside0 (x ≤ y ∧ y ≤ z ∧ (L.length : Int) ≤ y + kq) ∧ Drawn0 w w')
  case atStart => exact ⟨x, rfl, ⟨Int.le_refl _, hxz, by omega⟩, by repeat (first | exact Drawn0.refl _ | apply Drawn0.step)⟩
  case round =>
    obtain ⟨y, rfl, HA, ⟨m2, rfl⟩⟩ := hrel
    obtain ⟨hy0, hy1, hy3⟩ := HA.out
    clear HA
    by_cases cbl : y < z
    · have HCB := HZ.out.all y hy0 cbl
      have hcall := fun W => white (rd L y) W
      rw [decide_eq_true HCB] at hcall
      have HC := Aside0.mk hcall
      clear hcall HCB
      obtain _ | g0 := gk
      · exfalso; omega
      go_wp2_with fail
      with_reducible refine (char_ (HB.out.below ?b) y (by omega) (by omega)).mono ?_
      case b => exact (by repeat (first | exact Below.refl _ _ | exact HBW.out | apply pw_below_drewN))
      rintro e w1 ⟨rfl, ⟨m1, rfl⟩⟩
      go_wp2_with fail
      with_reducible refine (HC.out _).mono ?_
      rintro e w2 ⟨rfl, ⟨m3, rfl⟩⟩
      go_wp2_with fail
      go_roundg g0
      case measure => omega
      case rel => exact ⟨y + 1, rfl, ⟨by omega, by omega, by omega⟩, by repeat (first | exact Drawn0.refl _ | apply Drawn0.step)⟩
    · obtain rfl : y = z := by omega
      have hcall := fun W => white (rd L y) W
      rw [decide_eq_false HZ.out.stop] at hcall
      have HC := Aside0.mk hcall
      clear hcall
      go_wp2_with fail
      with_reducible refine (char_ (HB.out.below ?b) y (by omega) (by omega)).mono ?_
      case b => exact (by repeat (first | exact Below.refl _ _ | exact HBW.out | apply pw_below_drewN))
      rintro e w1 ⟨rfl, ⟨m1, rfl⟩⟩
      go_wp2_with fail
      with_reducible refine (HC.out _).mono ?_
      rintro e w2 ⟨rfl, ⟨m3, rfl⟩⟩
      go_wp2_with fail
      with_reducible refine (char_ (HB.out.below ?b) y (by omega) (by omega)).mono ?_
      case b => exact (by repeat (first | exact Below.refl _ _ | exact HBW.out | apply pw_below_drewN))
      rintro e w1 ⟨rfl, ⟨m4, rfl⟩⟩
      have HBR2 := Aside0.mk HBR.out
      rcases HBR2.out with h | h
      all_goals
        rw [h]
        clear h HBR2
        go_wp2_with fail
        with_reducible refine (depthSyntaxError q ad c L y _ (HG.out.below ?b1) (HB.out.below ?b2) (by omega) (by omega)).mono ?_
        case b1 => exact (by repeat (first | exact Below.refl _ _ | exact HBW.out | apply pw_below_drewN))
        case b2 => exact (by repeat (first | exact Below.refl _ _ | exact HBW.out | apply pw_below_drewN))
        rintro e w2 ⟨v2, rfl, hv, hb⟩
        have HV := Aside0.mk hv
        have HB2 := Aside0.mk (show Below w.heap.size w w2 from below_step (by repeat (first | exact Below.refl _ _ | apply pw_below_drewN)) hb)
        clear hv hb
        go_wp2_with fail
        exact HRJ.out _ _ ⟨rfl, HB2.out, .inr ⟨_, v2, rfl, HV.out, rfl, rfl⟩⟩
set_option maxRecDepth 100000 in
set_option maxHeartbeats 8000000 in
theorem fastDeep (ad : Addr) (c : Nat) (L : List Int) (y mx : Int) (w : World) (hB : Buf w ad c L) (h0 : 0 ≤ y) (h1 : y < L.length) (hbr : rd L y = 123 ∨ rd L y = 91) (hmx : mx < 1) :
    Calls Tryd.prog 114 #[.slice (some ad) L.length c, .int .i64 y, .int .i64 0, .int .u64 0, .int .u8 0, .int .i64 mx] w fun e w' => e = .returned (.tuple #[.int .i64 y, .int .i64 0, .int .u64 0, .int .u8 0, .int .u8 3]) ∧ Drawn0 w w' := by
  have hsm := hB.small
  have HB := Aside0.mk hB
  clear hB
  obtain ⟨Qx, hQx⟩ : ∃ Qx, Qx = bodyPost Tryd.prog Tryd.f114 (fun e w' => e = .returned (.tuple #[.int .i64 y, .int .i64 0, .int .u64 0, .int .u8 0, .int .u8 3]) ∧ Drawn0 w w') := ⟨_, rfl⟩
  have HR : Aside0 (∀ a' w', a'.defers = [] → Drawn0 w w' → a'.tmps.getD 12 undef = .int .i64 y → a'.tmps.getD 13 undef = .int .i64 0 → a'.tmps.getD 14 undef = .int .u64 0 → a'.tmps.getD 15 undef = .int .u8 0 → a'.tmps.getD 16 undef = .int .u8 3 → Qx .ret a' w') := ⟨fun a' w' hd hw h1 h2 h3 h4 h5 => by
    rw [hQx]
    refine bodyPost_ret (results_tmp5 rfl _ _ _) hd ⟨?_, hw⟩
    rw [h1, h2, h3, h4, h5]⟩
  rcases hbr with hbr | hbr
  all_goals
    have HBR := Aside0.mk hbr
    clear hbr
    go_enter Tryd.func114, Tryd.ntmps114
    rw [← hQx]
    clear hQx
    refine wp_seq ?_
    go_wp2_with fail
    refine wp_scope_labels (fun n' l a' w' => False) ?_ (fun n' l a' w' h => h.elim)
    obtain ⟨Qj, hQj⟩ : ∃ Qj, Qj = jumps (fun l a w' => ∃ n' : Nat, False) Qx := ⟨_, rfl⟩
    rw [← hQj]
    have HRJ : Aside0 (∀ a' w', a'.defers = [] → Drawn0 w w' → a'.tmps.getD 12 undef = .int .i64 y → a'.tmps.getD 13 undef = .int .i64 0 → a'.tmps.getD 14 undef = .int .u64 0 → a'.tmps.getD 15 undef = .int .u8 0 → a'.tmps.getD 16 undef = .int .u8 3 → Qj .ret a' w') := ⟨fun a' w' hd hw h1 h2 h3 h4 h5 => by rw [hQj]; exact HR.out a' w' hd hw h1 h2 h3 h4 h5⟩
    clear hQj HR
    go_upto_region 7 with (fail)
    rename_i KL hKL
    refine wp_label (hKL _ _ ?_)
    clear hKL
    go_wp2_with fail
    with_reducible refine (char_ (HB.out.below ?b) y (by omega) (by omega)).mono ?_
    case b => exact (by repeat (first | exact Below.refl _ _ | exact HBW.out | apply pw_below_drewN))
    rintro e w1 ⟨rfl, ⟨m1, rfl⟩⟩
    rw [HBR.out]
    go_wp2_with fail
    exact HRJ.out _ _ rfl (by repeat (first | exact Drawn0.refl _ | apply Drawn0.step)) rfl rfl rfl rfl rfl
set_option maxRecDepth 100000 in
set_option maxHeartbeats 4000000 in
theorem eventDeep (q : ByteArray → ByteArray) (ad : Addr) (c : Nat) (L : List Int) (z n : Int) (w : World) (hG : G q w) (hB : Buf w ad c L) (h0 : 0 ≤ z) (hn0 : 9223372036854755807 ≤ n) (hn1 : n ≤ 9223372036854775807) (hz : RunTo isBlank L z z) (hbr : rd L z = 123 ∨ rd L z = 91) :
    Calls Tryd.prog 116 #[.slice (some ad) L.length c, .int .i64 z, .int .i64 n, .int .i64 0, .int .u64 0, .int .u8 0, .int .u8 3] w (Told (.fault (deepSE q L z)) w) := by
  have HM := Aside0.mk (fun W => gojson_skipMaxLevel.calls n _ W rfl)
  have HC := Aside0.mk (fun W (h : Below w.heap.size w W) => gramDeep q ad c L z z n W (hG.below h) (hB.below h) h0 hn0 hn1 hz hbr)
  clear hG hB hz hbr
  go_enter Tryd.func116, Tryd.ntmps116
  go_wp2_with fail
  with_reducible refine (HM.out _).mono ?_
  rintro e w1 ⟨rfl, hb1⟩
  generalize mn (wrap64 (10000 - n)) 64 = mx
  have HB1 := Aside0.mk hb1
  clear hb1
  go_wp2_with fail
  go_loopg [1, 3, 4, 5, 6] (L.length) (fun kq v1 v3 v4 v5 v6 w' => v1 = .int .i64 z ∧ v3 = .int .i64 0 ∧ v4 = .int .u64 0 ∧ v5 = .int .u8 0 ∧ v6 = .int .u8 3 ∧ Aside0 (Below w.heap.size w w'))
  case atStart => exact ⟨rfl, rfl, rfl, rfl, rfl, HB1⟩
  case round =>
    clear HB1
    obtain ⟨rfl, rfl, rfl, rfl, rfl, HBW⟩ := hrel
    go_wp2_with fail
    with_reducible refine (HC.out _ HBW.out).mono ?_
    rintro e w2 ⟨hb, ⟨d, hd, rfl⟩ | ⟨s, v, hs, hv, rfl⟩⟩
    · cases hd
    · have HB2 := Aside0.mk (below_step HBW.out hb)
      have HO2 := Aside0.mk hs
      have HV := Aside0.mk hv
      clear hb hs hv
      go_wp2_with fail
      go_ret2
      exact ⟨HB2.out, .inr ⟨s, v, HO2.out, HV.out, rfl⟩⟩
set_option maxRecDepth 100000 in
set_option maxHeartbeats 4000000 in
theorem valDeep (q : ByteArray → ByteArray) (ad : Addr) (c : Nat) (L : List Int) (x z n : Int) (w : World) (hG : G q w) (hB : Buf w ad c L) (h0 : 0 ≤ x) (hn0 : 9223372036854755807 ≤ n) (hn1 : n ≤ 9223372036854775807) (hz : RunTo isBlank L x z) (hbr : rd L z = 123 ∨ rd L z = 91) :
    Calls Tryd.prog 86 #[.slice (some ad) L.length c, .int .i64 x, .int .i64 n] w (Told (.fault (deepSE q L z)) w) := by
  have hsm := hB.small
  have hxz := hz.le
  have hzl := hz.lt
  have hmn : mn (wrap64 (10000 - n)) 64 = 10000 - n := by
    rw [show wrap64 (10000 - n) = 10000 - n by unfold wrap64; omega]
    unfold mn
    split <;> omega
  have HM : Aside0 (∀ W, Calls Tryd.prog 115 #[.int .i64 n] W fun e w' => e = .returned (.int .i64 (10000 - n)) ∧ Below W.heap.size W w') := ⟨fun W => by have := gojson_skipMaxLevel.calls n _ W rfl; rw [hmn] at this; exact this⟩
  have HF := Aside0.mk (fun W (h : Below w.heap.size w W) => fastDeep ad c L z (10000 - n) W (hB.below h) (by omega) hzl hbr (by omega))
  have HE := Aside0.mk (fun W (h : Below w.heap.size w W) => eventDeep q ad c L z n W (hG.below h) (hB.below h) (by omega) hn0 hn1 ⟨Int.le_refl _, hzl, fun k h1 h2 => by omega, hz.stop⟩ hbr)
  have HBR := Aside0.mk hbr
  have HZ := Aside0.mk hz
  have HB := Aside0.mk hB
  clear hG hB hmn hz hbr
  go_enter Tryd.func86, Tryd.ntmps86
  go_wp2_with fail
  go_loopg [1] (L.length) (fun kq v1 w' => ∃ (y : Int), v1 = .int .i64 y ∧ Aside0 (x ≤ y ∧ y ≤ z ∧ (L.length : Int) ≤ y + kq) ∧ Drawn0 w w')
  case atStart => exact ⟨x, rfl, ⟨Int.le_refl _, hxz, by omega⟩, by repeat (first | exact Drawn0.refl _ | apply Drawn0.step)⟩
  case round =>
    obtain ⟨y, rfl, HA, ⟨m, rfl⟩⟩ := hrel
    obtain ⟨hy0, hy1, hk⟩ := HA.out
    clear HA
    have hx := HB.out.at_ y (by omega) (by omega)
    by_cases cbl : y < z
    · obtain _ | g0 := gk
      · exfalso; omega
      rcases HZ.out.all y hy0 cbl with h | h | h | h
      all_goals
        rw [h] at hx
        clear h
        go_wp2_with fail
        go_roundg g0
        case measure => omega
        case rel => exact ⟨y + 1, rfl, ⟨by omega, by omega, by omega⟩, by repeat (first | exact Drawn0.refl _ | apply Drawn0.step)⟩
    · obtain rfl : y = z := by omega
      rcases HBR.out with h | h
      all_goals
        rw [h] at hx
        clear h
        go_wp2_with fail
        with_reducible refine (HM.out _).mono ?_
        rintro e w1 ⟨rfl, hb1⟩
        have HB1 := Aside0.mk (belowD hb1)
        clear hb1
        go_wp2_with fail
        with_reducible refine (HF.out _ HB1.out).mono ?_
        rintro e w3 ⟨rfl, ⟨m3, rfl⟩⟩
        have HB2 : Aside0 (Below w.heap.size w (w1.drewN m3)) := ⟨pw_below_drewN HB1.out _⟩
        go_wp2_with fail
        with_reducible refine (HE.out _ HB2.out).mono ?_
        rintro e w4 ⟨hb, ⟨d, hd, rfl⟩ | ⟨s, v, hs, hv, rfl⟩⟩
        · cases hd
        · have HB4 := Aside0.mk (below_step HB2.out hb)
          have HO2 := Aside0.mk hs
          have HV := Aside0.mk hv
          clear hb hs hv
          go_wp2_with fail
          go_ret2
          exact ⟨HB4.out, .inr ⟨s, v, HO2.out, HV.out, rfl⟩⟩
end Go.Proofs.YtfkagnpdapkaaaaDoor.Err
