/- FnBehind: behind a value nothing may stand but white space; the first other byte is the fault. -/
import Derived.Test.YtfkagnpdapkaaaaDoorValueB
import Derived.IntWalk
namespace Go.Proofs.YtfkagnpdapkaaaaDoor.Err
open Go.RowKit Go.Proofs.YtfkagnpdapkaaaaDoorW.PrintWords Go.Proofs.YtfkagnpdapkaaaaDoorW.PrintLast Go.Proofs.YtfkagnpdapkaaaaDoorW.PrintMore
open Go.Proofs.YtfkagnpdapkaaaaDoor.Dig Go.Proofs.YtfkagnpdapkaaaaDoor.Tab Go.Proofs.YtfkagnpdapkaaaaDoor.QF Go.Proofs.YtfkagnpdapkaaaaDoor.QL
set_option linter.unusedVariables false
section
variable {q : ByteArray → ByteArray}
set_option maxRecDepth 100000 in
set_option maxHeartbeats 4000000 in
theorem implBehind (A : Option Addr) (c : Nat) (l : List Int) (x : Int) (w : World) (hG : G q w) (hC : Kd.C (Kd.int .u8) w A l.length l) (hcap : l.length ≤ c) (hb : ∀ y, y ∈ l → 0 ≤ y ∧ y < 256) (hl : l.length ≤ 10000) (h0 : 0 ≤ x) (h1 : x ≤ l.length) :
    Calls Tryd.prog 43 #[.slice A l.length c, .int .i64 x] w fun e w' => ∃ j, RunTo isBlank (l ++ [0]) x j ∧ e = .returned (faultO (endR q (l ++ [0]) j)) ∧ Below w.heap.size w w' := by
  have HI : Aside0 (∀ W, Below w.heap.size w W → Calls Tryd.prog 51 #[.slice A l.length c] W fun e w' => ∃ ad cc L, e = .returned (.slice (some ad) L.length cc) ∧ Aside0 (L = l ++ [0]) ∧ Buf w' ad cc L ∧ Below W.heap.size W w') := ⟨fun W hbl => input A c l W (Kd.C_below hC hbl) hcap hb hl⟩
  have HLEN : Aside0 (∀ L, L = l ++ [0] → (L.length : Int) = l.length + 1) := ⟨fun L h => by rw [h, List.length_append]; rfl⟩
  have HG := Aside0.mk hG
  clear hC hb hG
  go_enter Tryd.func43, Tryd.ntmps43
  go_wp2_with fail
  with_reducible refine (HI.out _ (below_alloc (Below.refl _ _) _)).mono ?_
  rintro e w1 ⟨ad, cc, L, rfl, HL, hB1, hb1⟩
  obtain ⟨j, hr, hv⟩ := validateEnd q ad cc L x w1 (HG.out.below (below_step (below_alloc (Below.refl _ w) _) hb1)) hB1 h0 (by have := HLEN.out L HL.out; omega)
  have HR : Aside0 (RunTo isBlank (l ++ [0]) x j) := ⟨by rw [← HL.out]; exact hr⟩
  have hER : endR q L j = endR q (l ++ [0]) j := by rw [HL.out]
  have hva : ∀ s, endR q (l ++ [0]) j = some s → 0 ≤ s.va ∧ s.va ≤ 20000 := fun s hs => by
    unfold endR at hs
    split at hs
    · cases hs
    · cases hs
      unfold faultAt
      split <;> simp
  rw [hER] at hv
  have HV := Aside0.mk hv
  have HBB := Aside0.mk (below_step (below_alloc (Below.refl _ w) _) hb1)
  have HB10 := Aside0.mk hb1
  clear hB1 hb1 hr hv hER
  obtain ⟨r, hR2⟩ : ∃ r, r = endR q (l ++ [0]) j := ⟨_, rfl⟩
  have HER := Aside0.mk hR2
  rw [← hR2] at HV hva
  clear hR2
  have HVA := Aside0.mk hva
  clear hva
  go_wp2_with fail
  with_reducible refine HV.out.mono ?_
  rintro e w2 ⟨hb2, hm⟩
  have HBB2 := Aside0.mk (below_step HBB.out hb2)
  have HB20 := Aside0.mk (below_step HB10.out hb2)
  cases r with
  | none =>
    cases hm
    clear hb2
    go_wp2_with fail
    with_reducible refine (faultNil _).mono ?_
    rintro e w3 ⟨rfl, hb3⟩
    have HB3 := Aside0.mk (below_step HBB2.out hb3)
    have hblk := ((below_step HB20.out hb3).block w.heap.size (blk_lt' (blk_new w _))).trans (blk_new w _)
    obtain ⟨c0, c1, c2, c3, c4, c5, k0, k1, k2, k3, k4, k5⟩ := six hblk
    clear hb3 hblk
    unfold noFault
    go_wp2_with fail
    refine bodyPost_ret (v := faultO none) ?_ rfl ?_
    · unfold faultO noFault
      simp [results, Tryd.results43, go_sem, c0, c1, c2, c3, c4, c5]
    exact ⟨j, HR.out, by rw [← HER.out], bsix HB3.out⟩
  | some s =>
    obtain ⟨g, rfl, hp⟩ := hm
    have hva := HVA.out s rfl
    have HP := Aside0.mk hp
    clear hb2 hp
    go_wp2_with fail
    with_reducible refine (faultErr g s _ HP.out hva.1 hva.2).mono ?_
    rintro e w3 ⟨rfl, hb3⟩
    have HB3 := Aside0.mk (below_step HBB2.out hb3)
    have hblk := ((below_step HB20.out hb3).block w.heap.size (blk_lt' (blk_new w _))).trans (blk_new w _)
    obtain ⟨c0, c1, c2, c3, c4, c5, k0, k1, k2, k3, k4, k5⟩ := six hblk
    clear hb3 hblk
    unfold faultV
    go_wp2_with fail
    refine bodyPost_ret (v := faultO (some s)) ?_ rfl ?_
    · unfold faultO faultV
      simp [results, Tryd.results43, go_sem, c0, c1, c2, c3, c4, c5]
    exact ⟨j, HR.out, by rw [← HER.out], bsix HB3.out⟩
theorem specBlank (c : Int) (w : World) : Calls Tryd.prog 37 #[.int .u8 c] w fun e w' => e = .returned (.bool (decide (isBlank c))) ∧ Drawn0 w w' := by
  have HC := Aside0.mk (sBlank c w)
  go_enter Tryd.func37, Tryd.ntmps37
  go_wp2_with fail
  with_reducible refine HC.out.mono ?_
  rintro e w1 ⟨rfl, ⟨m, rfl⟩⟩
  go_wp2_with fail
  go_ret
  exact ⟨rfl, ⟨m, rfl⟩⟩
/-- A world in which what was there still is. -/
def HoldB (W w' : World) : Prop := Below W.heap.size W w'
theorem HoldB.drew {W w' : World} (h : HoldB W w') : HoldB W w'.drew := Below.drew h
theorem blk_keep2 {w w' : World} {n : Nat} {X : Obj} (hb : Below ((w.alloc X).drewN n).heap.size ((w.alloc X).drewN n) w') : w'.heap[w.heap.size]? = some X := by
  rw [hb.block w.heap.size (by show w.heap.size < (w.alloc X).heap.size; simp)]
  exact blk_new w X
/-- What the law builds to compare the words with. -/
def topWords (q : ByteArray → ByteArray) (c : Int) : ByteArray := wInvalid ++ quoted q c ++ ⟨#[32, 97, 102, 116, 101, 114, 32, 116, 111, 112, 45, 108, 101, 118, 101, 108, 32, 118, 97, 108, 117, 101]⟩
theorem topWords_eq (q : ByteArray → ByteArray) (c : Int) : topWords q c = badWords q c wAfterTop := by
  unfold topWords badWords
  rw [ByteArray.append_assoc (a := wInvalid ++ quoted q c)]
  rfl
set_option maxRecDepth 100000 in
set_option maxHeartbeats 8000000 in
theorem behindLaw (A : Option Addr) (c : Nat) (l : List Int) (i : Int) (w : World) (hG : G q w) (hC : Kd.C (Kd.int .u8) w A l.length l) (hcap : l.length ≤ c) (hb : ∀ y, y ∈ l → 0 ≤ y ∧ y < 256) (hm : l.length ≤ maxLen) (hi : -9223372036854775808 ≤ i ∧ i ≤ 9223372036854775807) :
    Calls Tryd.prog 14 #[.slice A l.length c, .int .i64 i] w fun e w' => e = .returned (.bool true) ∧ Below w.heap.size w w' := by
  unfold maxLen at hm
  have HF : Aside0 (∀ W, Below w.heap.size w W → Calls Tryd.prog 24 #[.slice A l.length c, .int .i64 i] W fun e w' => e = .returned (.bool (decide (l.length ≤ 10000 ∧ 0 ≤ i ∧ i ≤ l.length))) ∧ Drawn0 W w') := ⟨fun W hW => fitsB A c l i W (Kd.C_below hC hW) hcap⟩
  have HC := Aside0.mk hC
  have HBY := Aside0.mk hb
  have HG := Aside0.mk hG
  clear hC hb hG
  by_cases z1 : (l.length : Int) > 2147483647
  · go_enter Tryd.func14, Tryd.ntmps14
    go_wp2_with fail
    all_goals
      go_ret
      exact ⟨rfl, Below.refl _ _⟩
  by_cases z2 : l.length ≤ 10000 ∧ 0 ≤ i ∧ i ≤ l.length
  rotate_left
  · have HF2 : Aside0 (∀ W, Below w.heap.size w W → Calls Tryd.prog 24 #[.slice A l.length c, .int .i64 i] W fun e w' => e = .returned (.bool false) ∧ Drawn0 W w') := ⟨fun W hW => by have := HF.out W hW; rw [decide_eq_false z2] at this; exact this⟩
    clear z2
    go_enter Tryd.func14, Tryd.ntmps14
    go_wp2_with fail
    with_reducible refine (HF2.out _ (Below.refl _ _)).mono ?_
    rintro e w1 ⟨rfl, ⟨m1, rfl⟩⟩
    go_wp2_with fail
    go_ret
    exact ⟨rfl, pw_below_drewN (Below.refl _ _) _⟩
  have HF2 : Aside0 (∀ W, Below w.heap.size w W → Calls Tryd.prog 24 #[.slice A l.length c, .int .i64 i] W fun e w' => e = .returned (.bool true) ∧ Drawn0 W w') := ⟨fun W hW => by have := HF.out W hW; rw [decide_eq_true z2] at this; exact this⟩
  obtain ⟨z3, z4, z5⟩ := z2
  have HV : Aside0 (∀ W, Below w.heap.size w W → Calls Tryd.prog 43 #[.slice A l.length c, .int .i64 i] W fun e w' => ∃ j, RunTo isBlank (l ++ [0]) i j ∧ e = .returned (faultO (endR q (l ++ [0]) j)) ∧ Below W.heap.size W w') := ⟨fun W hW => implBehind A c l i W (HG.out.below hW) (Kd.C_below HC.out hW) hcap HBY.out z3 z4 z5⟩
  have HWK : Aside0 (∀ W, Below w.heap.size w W → Calls Tryd.prog 22 #[] W fun e w' => e = .returned (.bool true) ∧ Below W.heap.size W w') := ⟨fun W hW => works q W (HG.out.below hW)⟩
  have HQ : Aside0 (∀ W x, 0 ≤ x → x < 256 → Below w.heap.size w W → Calls Tryd.prog 21 #[.int .u8 x] W fun e w' => e = .returned (.string (quoted q x)) ∧ Below W.heap.size W w') := ⟨fun W x h0 h1 hW => sQuoted q x W (HG.out.below hW) h0 h1⟩
  have HQS : Aside0 (∀ x, 0 ≤ x → x < 256 → (quoted q x).size ≤ 2000) := ⟨fun x h0 h1 => quoted_size q x w HG.out h0 h1⟩
  have hlen : (l ++ [(0 : Int)]).length = l.length + 1 := by rw [List.length_append]; rfl
  have HLEN := Aside0.mk hlen
  clear hlen
  go_enter Tryd.func14, Tryd.ntmps14
  go_wp2_with fail
  with_reducible refine (HF2.out _ (Below.refl _ _)).mono ?_
  rintro e w1 ⟨rfl, ⟨m1, rfl⟩⟩
  go_wp2_with fail
  with_reducible refine (HV.out _ (pw_below_drewN (Below.refl _ _) _)).mono ?_
  rintro e w2 ⟨j, hr, rfl, hb2⟩
  have hj0 := hr.le
  have hj1 : j ≤ (l.length : Int) := by have := hr.lt; have := HLEN.out; omega
  have HR := Aside0.mk hr
  have HB2 := Aside0.mk (belowD hb2)
  clear hb2 hr
  by_cases hj : j = l.length
  · have e1 : endR q (l ++ [0]) j = none := if_pos (by rw [HLEN.out]; omega)
    rw [e1]
    unfold faultO noFault
    clear e1
    go_wp2_with fail
    go_loopg [7] ((j - i).toNat + 1) (fun kq v7 w' => ∃ (y : Int), v7 = .int .i64 y ∧ Aside0 (i ≤ y ∧ y ≤ j ∧ j + 1 ≤ y + kq) ∧ Drawn0 (w2.alloc (.cells #[.bool false, .int .i64 0, .string ByteArray.empty, .bool false, .bool false, .int .i64 0] 24)) w')
    case atStart => exact ⟨i, rfl, ⟨Int.le_refl _, hj0, by omega⟩, Drawn0.refl _⟩
    case round =>
      obtain ⟨y, rfl, HA, ⟨m2, rfl⟩⟩ := hrel
      obtain ⟨hy0, hy1, hy2⟩ := HA.out
      clear HA
      by_cases hlt : y < j
      · obtain ⟨ad, rfl, hx⟩ := Kd.at_int (Kd.C_below HC.out (below_alloc HB2.out (.cells #[.bool false, .int .i64 0, .string ByteArray.empty, .bool false, .bool false, .int .i64 0] 24))) y (by omega) (by omega)
        have hbk : isBlank (rd l y) := by have := HR.out.all y hy0 hlt; obtain ⟨n, rfl⟩ := Int.eq_ofNat_of_zero_le (show 0 ≤ y by omega); rw [rd_app l [0] n (by omega)] at this; exact this
        have HS : Aside0 (∀ W, Calls Tryd.prog 37 #[.int .u8 (rd l y)] W fun e w' => e = .returned (.bool true) ∧ Drawn0 W w') := ⟨fun W => by have := specBlank (rd l y) W; rw [decide_eq_true hbk] at this; exact this⟩
        have hyl : y < (l.length : Int) := by omega
        clear hbk
        obtain _ | g0 := gk
        · exfalso; omega
        go_wp2_with fail
        with_reducible refine (HS.out _).mono ?_
        rintro e w3 ⟨rfl, ⟨m3, rfl⟩⟩
        go_wp2_with fail
        go_roundg g0
        case measure => omega
        case rel => exact ⟨y + 1, rfl, ⟨by omega, by omega, by omega⟩, by repeat (first | exact Drawn0.refl _ | apply Drawn0.step)⟩
      · obtain rfl : y = j := by omega
        have e9 : (y == (l.length : Int)) = true := by rw [hj]; simp
        have hyl : ¬ y < (l.length : Int) := by omega
        clear hj
        go_wp2_with fail
        with_reducible refine (HWK.out _ (pw_below_drewN (below_alloc HB2.out _) _)).mono ?_
        rintro e w3 ⟨rfl, hb3⟩
        obtain ⟨c0, _⟩ := six (blk_keep2 hb3)
        have HB3 := Aside0.mk (below_step (pw_below_drewN (below_alloc HB2.out _) _) hb3)
        clear hb3
        go_wp2_with fail
        go_ret
        exact ⟨rfl, HB3.out⟩
  · have hjl : j < (l.length : Int) := by omega
    have e1 : endR q (l ++ [0]) j = some ⟨badWords q (rd l j) wAfterTop, j + 1, false, 0⟩ := by
      unfold endR faultAt
      have h1 := HLEN.out
      rw [if_neg (by omega), if_neg (by omega)]
      obtain ⟨n, rfl⟩ := Int.eq_ofNat_of_zero_le (show 0 ≤ j by omega)
      rw [rd_app l [0] n (by omega)]
      rfl
    rw [e1]
    obtain ⟨x, hx⟩ : ∃ x, x = rd l j := ⟨_, rfl⟩
    have hby := HBY.out (rd l j) (by obtain ⟨hh, e⟩ := rd_get l j (by omega) hjl; rw [e]; exact List.getElem_mem _)
    rw [← hx] at hby ⊢
    have hqs := HQS.out x hby.1 hby.2
    have hW := congrArg (fun b : ByteArray => b.toList) (topWords_eq q x)
    have hB1 : ((badWords q x wAfterTop).toList == (topWords q x).toList) = true := by rw [topWords_eq]; simp
    unfold topWords at hB1
    have hbk : ¬ isBlank x := by have := HR.out.stop; obtain ⟨n, rfl⟩ := Int.eq_ofNat_of_zero_le (show 0 ≤ j by omega); rw [rd_app l [0] n (by omega)] at this; rw [hx]; exact this
    have HX := Aside0.mk hx
    generalize badWords q x wAfterTop = m at hB1 ⊢
    clear e1 hW
    have eV : faultO (some ⟨m, j + 1, false, 0⟩) = .tuple #[.agg #[.bool true, .int .i64 (j + 1), .string m, .bool false, .bool false, .int .i64 0], .bool true] := rfl
    rw [eV]
    clear eV hx
    go_wp2_with fail
    go_loopg [7] ((j - i).toNat + 1) (fun kq v7 w' => ∃ (y : Int), v7 = .int .i64 y ∧ Aside0 (i ≤ y ∧ y ≤ j ∧ j + 1 ≤ y + kq) ∧ Drawn0 (w2.alloc (.cells #[.bool true, .int .i64 (j + 1), .string m, .bool false, .bool false, .int .i64 0] 24)) w')
    case atStart => exact ⟨i, rfl, ⟨Int.le_refl _, hj0, by omega⟩, Drawn0.refl _⟩
    case round =>
      obtain ⟨y, rfl, HA, ⟨m2, rfl⟩⟩ := hrel
      obtain ⟨hy0, hy1, hy2⟩ := HA.out
      clear HA
      have hyl : y < (l.length : Int) := by omega
      obtain ⟨ad, rfl, hx⟩ := Kd.at_int (Kd.C_below HC.out (below_alloc HB2.out (.cells #[.bool true, .int .i64 (j + 1), .string m, .bool false, .bool false, .int .i64 0] 24))) y (by omega) (by omega)
      by_cases hlt : y < j
      · have hbk2 : isBlank (rd l y) := by have := HR.out.all y hy0 hlt; obtain ⟨n, rfl⟩ := Int.eq_ofNat_of_zero_le (show 0 ≤ y by omega); rw [rd_app l [0] n (by omega)] at this; exact this
        have HS : Aside0 (∀ W, Calls Tryd.prog 37 #[.int .u8 (rd l y)] W fun e w' => e = .returned (.bool true) ∧ Drawn0 W w') := ⟨fun W => by have := specBlank (rd l y) W; rw [decide_eq_true hbk2] at this; exact this⟩
        clear hbk2 hbk hB1
        obtain _ | g0 := gk
        · exfalso; omega
        go_wp2_with fail
        with_reducible refine (HS.out _).mono ?_
        rintro e w3 ⟨rfl, ⟨m3, rfl⟩⟩
        go_wp2_with fail
        go_roundg g0
        case measure => omega
        case rel => exact ⟨y + 1, rfl, ⟨by omega, by omega, by omega⟩, by repeat (first | exact Drawn0.refl _ | apply Drawn0.step)⟩
      · obtain rfl : y = j := by omega
        rw [← HX.out] at hx
        have HXC : Aside0 (∀ W, Below w.heap.size w W → W.cell? (ad.add y.toNat) = some (.int .u8 x)) := ⟨fun W hW => by
          obtain ⟨ad', e', h'⟩ := Kd.at_int (Kd.C_below HC.out hW) y (by omega) hyl
          cases e'
          rw [h', HX.out]⟩
        have HS : Aside0 (∀ W, Calls Tryd.prog 37 #[.int .u8 x] W fun e w' => e = .returned (.bool false) ∧ Drawn0 W w') := ⟨fun W => by have := specBlank x W; rw [decide_eq_false hbk] at this; exact this⟩
        have e9 : (y == (l.length : Int)) = false := beq_eq_false_iff_ne.mpr hj
        have HB1 := Aside0.mk hB1
        clear hj hbk hB1
        go_wp2_with fail
        with_reducible refine (HS.out _).mono ?_
        rintro e w3 ⟨rfl, ⟨m3, rfl⟩⟩
        have HCE : Aside0 (∀ W', HoldB (w2.alloc (.cells #[.bool true, .int .i64 (y + 1), .string m, .bool false, .bool false, .int .i64 0] 24)) W' → W'.cell? ⟨w2.heap.size, 0, none⟩ = some (.bool true) ∧ W'.cell? ⟨w2.heap.size, 1, none⟩ = some (.int .i64 (y + 1)) ∧ W'.cell? ⟨w2.heap.size, 2, none⟩ = some (.string m) ∧ W'.cell? (ad.add y.toNat) = some (.int .u8 x)) := ⟨fun W' h => by
          obtain ⟨m0, m1, m2, _⟩ := six (blk_keep2 (n := 0) h)
          exact ⟨m0, m1, m2, HXC.out W' (below_step (below_alloc HB2.out _) h)⟩⟩
        have HQ2 : Aside0 (∀ W', HoldB (w2.alloc (.cells #[.bool true, .int .i64 (y + 1), .string m, .bool false, .bool false, .int .i64 0] 24)) W' → Calls Tryd.prog 21 #[.int .u8 x] W' fun e w' => e = .returned (.string (quoted q x)) ∧ w'.cell? ⟨w2.heap.size, 0, none⟩ = some (.bool true) ∧ w'.cell? ⟨w2.heap.size, 1, none⟩ = some (.int .i64 (y + 1)) ∧ w'.cell? ⟨w2.heap.size, 2, none⟩ = some (.string m) ∧ w'.cell? (ad.add y.toNat) = some (.int .u8 x) ∧ HoldB (w2.alloc (.cells #[.bool true, .int .i64 (y + 1), .string m, .bool false, .bool false, .int .i64 0] 24)) w') := ⟨fun W' h => (HQ.out W' x hby.1 hby.2 (below_step (below_alloc HB2.out _) h)).mono fun e w' ⟨h1, h2⟩ => by
          have h3 : HoldB (w2.alloc (.cells #[.bool true, .int .i64 (y + 1), .string m, .bool false, .bool false, .int .i64 0] 24)) w' := below_step h h2
          obtain ⟨y0, y1, y2, y3⟩ := HCE.out w' h3
          exact ⟨h1, y0, y1, y2, y3, h3⟩⟩
        obtain ⟨x0, x1, x2, x3⟩ := HCE.out ((w2.alloc (.cells #[.bool true, .int .i64 (y + 1), .string m, .bool false, .bool false, .int .i64 0] 24)).drewN (m2 + m3)) (pw_below_drewN (Below.refl _ _) _)
        have x4 : HoldB (w2.alloc (.cells #[.bool true, .int .i64 (y + 1), .string m, .bool false, .bool false, .int .i64 0] 24)) ((w2.alloc (.cells #[.bool true, .int .i64 (y + 1), .string m, .bool false, .bool false, .int .i64 0] 24)).drewN (m2 + m3)) := pw_below_drewN (Below.refl _ _) _
        have hz1 : ¬ 9223372036854775807 < 18 + (quoted q x).size := by omega
        have hz2 : ¬ 9223372036854775807 < 18 + (quoted q x).size + 22 := by omega
        have hz3 : IntKind.i64.wrap (y + 1) = y + 1 := IntWalk.i64_in _ (by omega)
        have hz4 : 0 ≤ y := by omega
        have hB1 := HB1.out
        go_upto_region 11 with (fail)
        generalize (w2.alloc (.cells #[.bool true, .int .i64 (y + 1), .string m, .bool false, .bool false, .int .i64 0] 24)).drewN (m2 + m3) = WW at x0 x1 x2 x3 x4 ⊢
        go_region_held3 (fun w' => w'.cell? ⟨w2.heap.size, 0, none⟩ = some (.bool true) ∧ w'.cell? ⟨w2.heap.size, 1, none⟩ = some (.int .i64 (y + 1)) ∧ w'.cell? ⟨w2.heap.size, 2, none⟩ = some (.string m) ∧ w'.cell? (ad.add y.toNat) = some (.int .u8 x) ∧ HoldB (w2.alloc (.cells #[.bool true, .int .i64 (y + 1), .string m, .bool false, .bool false, .int .i64 0] 24)) w') (first | (refine ⟨?_, ?_, ?_, ?_, ?_⟩ <;> first | assumption | exact HoldB.drew ‹_›) | go_keep) (first
          | (go_at_call 21; with_reducible refine (HQ2.out _ ?_).mono ?_; (apply And.right; apply And.right; apply And.right; apply And.right; assumption); rintro e w9 ⟨rfl, y3, y4, y5, y6, y7⟩))
        all_goals
          have HW9 := Aside0.mk (below_step (below_alloc HB2.out _) y7)
          clear y3 y4 y5 y6 y7 x0 x1 x2 x3 x4
          go_wp2_with fail
          go_ret
          exact ⟨rfl, HW9.out⟩
end
theorem behind_walk (a0 : Option Addr) (len0 cap0 : Nat) (z0 : List Int) (a1 : Int) (w : World) (w0 : (a0 = none ∧ len0 = 0 ∧ cap0 = 0 ∧ z0 = []) ∨ ∃ x, a0 = some x ∧ len0 ≤ cap0 ∧ cap0 ≤ maxLen ∧ z0.length = cap0 ∧ (∀ i, i < z0.length → w.cell? (x.add i) = some (.int .u8 (z0.getD i 0))) ∧ ∀ n ∈ z0, (Lit.int .u8 n).wf = true) (y0 : len0 * 1 ≤ 140737488351232) (w1 : (Lit.int .i64 a1).wf = true) (hG : G Laid.goQ w) :
    Calls Tryd.prog 14 #[.slice a0 len0 cap0, .int .i64 a1] w fun e w' => e = .returned (.bool true) ∧ Below w.heap.size w w' := by
  obtain ⟨l0, rfl, hr0, hm0, hw0, hc0⟩ := ReadsInt.ofRowC w0
  exact behindLaw _ _ l0 a1 w hG (Kd.C_of_reads (d := (0 : Int)) (h1 := fun _ => rfl) hr0) hc0 (fun x hx => by have := bytes_of l0 hw0 x hx; omega) hm0 (wfI64 w1)
end Go.Proofs.YtfkagnpdapkaaaaDoor.Err
