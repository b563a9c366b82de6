/- FnBlankEnd: white space ends at the first byte that is none. -/
import Derived.Test.YtfkagnpdapkaaaaDoorScG
import Derived.Test.YtfkagnpdapkaaaaDoorQL1
namespace Go.Proofs.YtfkagnpdapkaaaaDoor.Err
open Go.RowKit Go.Proofs.YtfkagnpdapkaaaaDoorW.PrintWords Go.Proofs.YtfkagnpdapkaaaaDoorW.PrintLast Go.Proofs.YtfkagnpdapkaaaaDoorW.PrintMore
open Go.Proofs.YtfkagnpdapkaaaaDoor.Dig Go.Proofs.YtfkagnpdapkaaaaDoor.Tab Go.Proofs.YtfkagnpdapkaaaaDoor.QF Go.Proofs.YtfkagnpdapkaaaaDoor.QL
set_option linter.unusedVariables false
theorem fitsB (A : Option Addr) (c : Nat) (l : List Int) (i : Int) (w : World) (hC : Kd.C (Kd.int .u8) w A l.length l) (hcap : l.length ≤ c) : Calls Tryd.prog 24 #[.slice A l.length c, .int .i64 i] w fun e w' => e = .returned (.bool (decide (l.length ≤ 10000 ∧ 0 ≤ i ∧ i ≤ l.length))) ∧ Drawn0 w w' := by
  refine laws_fits.calls A c l i _ w hC hcap ?_
  unfold laws_fits.f
  by_cases h1 : (l.length : Int) ≤ 10000
  · rw [if_pos h1]
    by_cases h2 : i ≥ 0
    · rw [if_pos h2]
      congr 1
      rw [Bool.eq_iff_iff]
      simp
      omega
    · rw [if_neg h2, decide_eq_false (by omega)]
  · rw [if_neg h1, decide_eq_false (by omega)]
theorem specBlank (c : Int) (w : World) : Calls Tryd.prog 37 #[.int .u8 c] w fun e w' => e = .returned (.bool (decide (isBlank c))) ∧ Drawn0 w w' := by
  have HC : Aside0 (Calls Tryd.prog 64 #[.int .u8 c] w fun e w' => e = .returned (.bool (decide (isBlank c))) ∧ Drawn0 w w') := ⟨spec_blank.calls c _ w (by
    unfold spec_blank.f isBlank
    by_cases h : c = 13
    · subst h; decide
    · have e : (c == 13) = false := beq_eq_false_iff_ne.mpr h
      rw [e]
      repeat' split
      all_goals simp_all)⟩
  go_enter Tryd.func37, Tryd.ntmps37
  go_wp2_with fail
  with_reducible refine HC.out.mono ?_
  rintro e w1 ⟨rfl, ⟨m, rfl⟩⟩
  go_wp2_with fail
  go_ret
  exact ⟨rfl, ⟨m, rfl⟩⟩
theorem RunTo.uniq {p : Int → Prop} {L : List Int} {i j k : Int} (h : RunTo p L i j) (h2 : RunTo p L i k) : j = k := by
  by_cases h3 : j < k
  · exact absurd (h2.all j h.le h3) h.stop
  · by_cases h4 : k < j
    · exact absurd (h.all k h2.le h4) h2.stop
    · omega
set_option maxRecDepth 100000 in
set_option maxHeartbeats 4000000 in
theorem blankImpl (A : Option Addr) (c : Nat) (l : List Int) (x : Int) (w : World) (hC : Kd.C (Kd.int .u8) w A l.length l) (hcap : l.length ≤ c) (hb : ∀ y, y ∈ l → 0 ≤ y ∧ y < 256) (hl : l.length ≤ 10000) (h0 : 0 ≤ x) (h1 : x ≤ l.length) :
    Calls Tryd.prog 38 #[.slice A l.length c, .int .i64 x] w fun e w' => (∃ j, e = .returned (.int .i64 j) ∧ RunTo isBlank (l ++ [0]) x j) ∧ Below w.heap.size w w' := by
  have HI := Aside0.mk (input A c l w hC hcap hb hl)
  have HLEN : Aside0 (∀ L, L = l ++ [0] → (L.length : Int) = l.length + 1) := ⟨fun L h => by rw [h, List.length_append]; rfl⟩
  clear hC hb
  go_enter Tryd.func38, Tryd.ntmps38
  go_wp2_with fail
  with_reducible refine HI.out.mono ?_
  rintro e w1 ⟨ad, cc, L, rfl, HL, hB1, hb1⟩
  obtain ⟨j, hr, hc⟩ := skipWs hB1 x h0 (by have := HLEN.out L HL.out; omega)
  have HR := Aside0.mk hr
  have HBB := Aside0.mk hb1
  have HC : Aside0 (Calls Tryd.prog 65 #[.slice (some ad) L.length cc, .int .i64 x] w1 fun e w' => e = .returned (.int .i64 j) ∧ Drawn0 w1 w') := ⟨by
    have HC := Aside0.mk hc
    clear hr hb1 hB1 hc
    go_enter Tryd.func65, Tryd.ntmps65
    go_wp2_with fail
    with_reducible refine HC.out.mono ?_
    rintro e w2 ⟨rfl, ⟨m, rfl⟩⟩
    go_wp2_with fail
    go_ret
    exact ⟨rfl, ⟨m, rfl⟩⟩⟩
  clear hr hb1 hB1 hc
  go_wp2_with fail
  with_reducible refine HC.out.mono ?_
  rintro e w2 ⟨rfl, ⟨m, rfl⟩⟩
  go_wp2_with fail
  go_ret
  exact ⟨⟨j, rfl, by rw [← HL.out]; exact HR.out⟩, pw_below_drewN HBB.out m⟩
set_option maxRecDepth 100000 in
set_option maxHeartbeats 8000000 in
theorem blankLaw (q : ByteArray → ByteArray) (A : Option Addr) (c : Nat) (l : List Int) (i : Int) (w : World) (hG : G q w) (hC : Kd.C (Kd.int .u8) w A l.length l) (hcap : l.length ≤ c) (hb : ∀ x, x ∈ l → 0 ≤ x ∧ x < 256) (hm : l.length ≤ maxLen) (hi0 : -9223372036854775808 ≤ i) (hi1 : i ≤ 9223372036854775807) :
    Calls Tryd.prog 12 #[.slice A l.length c, .int .i64 i] w fun e w' => e = .returned (.bool true) ∧ Below w.heap.size w w' := by
  unfold maxLen at hm
  have HF := Aside0.mk (fitsB A c l i w hC hcap)
  have HC := Aside0.mk hC
  have HBY := Aside0.mk hb
  have HG := Aside0.mk hG
  clear hC hb hG
  by_cases z1 : (l.length : Int) > 2147483647
  · go_enter Tryd.func12, Tryd.ntmps12
    go_wp2_with fail
    all_goals
      go_ret
      exact ⟨rfl, Below.refl _ _⟩
  by_cases z2 : l.length ≤ 10000 ∧ 0 ≤ i ∧ i ≤ l.length
  rotate_left
  · have HF2 := HF.out
    rw [decide_eq_false z2] at HF2
    have HF3 := Aside0.mk HF2
    clear HF2 z2
    go_enter Tryd.func12, Tryd.ntmps12
    go_wp2_with fail
    with_reducible refine HF3.out.mono ?_
    rintro e w1 ⟨rfl, ⟨m1, rfl⟩⟩
    go_wp2_with fail
    go_ret
    exact ⟨rfl, by repeat (first | exact Below.refl _ _ | apply pw_below_drewN)⟩
  have HF2 := HF.out
  rw [decide_eq_true z2] at HF2
  have HF3 := Aside0.mk HF2
  obtain ⟨z3, z4, z5⟩ := z2
  clear HF2
  go_enter Tryd.func12, Tryd.ntmps12
  go_wp2_with fail
  with_reducible refine HF3.out.mono ?_
  rintro e w1 ⟨rfl, ⟨m1, rfl⟩⟩
  go_wp2_with fail
  go_loopg [5] (l.length + 1) (fun kq v5 w' => ∃ (y : Int), v5 = .int .i64 y ∧ Aside0 (i ≤ y ∧ y ≤ l.length ∧ (∀ k, i ≤ k → k < y → isBlank (rd l k)) ∧ (l.length : Int) + 1 ≤ y + kq) ∧ Drawn0 w w')
  case atStart => exact ⟨i, rfl, ⟨Int.le_refl _, z5, fun k h1 h2 => by omega, by omega⟩, by repeat (first | exact Drawn0.refl _ | apply Drawn0.step)⟩
  case round =>
    obtain ⟨y, rfl, HA, ⟨m2, rfl⟩⟩ := hrel
    obtain ⟨hy0, hy1, hy2, hy3⟩ := HA.out
    have HY2 := Aside0.mk hy2
    clear HA hy2
    have HEND : Aside0 ((∀ (h : y < l.length), ¬ isBlank (rd l y)) → RunTo isBlank (l ++ [0]) i y) := ⟨fun hn => by
      have hrd : ∀ k : Int, 0 ≤ k → k < l.length → rd (l ++ [0]) k = rd l k := fun k h1 h2 => by
        obtain ⟨n, rfl⟩ := Int.eq_ofNat_of_zero_le h1
        exact rd_app l [0] n (by omega)
      refine ⟨hy0, by rw [List.length_append, List.length_singleton]; omega, fun k h1 h2 => by rw [hrd k (by omega) (by omega)]; exact HY2.out k h1 h2, ?_⟩
      by_cases h : y < l.length
      · rw [hrd y (by omega) h]; exact hn h
      · have e : y = (l.length : Int) := by omega
        rw [e, rd_last]
        decide⟩
    have HIMP : Aside0 (∀ W, Below w.heap.size w W → Calls Tryd.prog 38 #[.slice A l.length c, .int .i64 i] W fun e w' => (∃ j, e = .returned (.int .i64 j) ∧ RunTo isBlank (l ++ [0]) i j) ∧ Below W.heap.size W w') := ⟨fun W hbl => blankImpl A c l i W (Kd.C_below HC.out hbl) hcap HBY.out z3 z4 z5⟩
    by_cases hlt : y < l.length
    · obtain ⟨ad, rfl, hx⟩ := Kd.at_int HC.out y (by omega) hlt
      by_cases hbk : isBlank (rd l y)
      · have HS : Aside0 (∀ W, Calls Tryd.prog 37 #[.int .u8 (rd l y)] W fun e w' => e = .returned (.bool true) ∧ Drawn0 W w') := ⟨fun W => by have := specBlank (rd l y) W; rw [decide_eq_true hbk] at this; exact this⟩
        have HBK := Aside0.mk hbk
        clear hbk
        obtain _ | g0 := gk
        · exfalso; omega
        go_wp2_with fail
        with_reducible refine (HS.out _).mono ?_
        rintro e w2 ⟨rfl, ⟨m3, rfl⟩⟩
        go_wp2_with fail
        go_roundg g0
        case measure => omega
        case rel => exact ⟨y + 1, rfl, ⟨by omega, by omega, fun k h1 h2 => if hk : k = y then by rw [hk]; exact HBK.out else HY2.out k h1 (by omega), by omega⟩, by repeat (first | exact Drawn0.refl _ | apply Drawn0.step)⟩
      · have HS : Aside0 (∀ W, Calls Tryd.prog 37 #[.int .u8 (rd l y)] W fun e w' => e = .returned (.bool false) ∧ Drawn0 W w') := ⟨fun W => by have := specBlank (rd l y) W; rw [decide_eq_false hbk] at this; exact this⟩
        have HE := Aside0.mk (HEND.out fun _ => hbk)
        clear hbk
        go_wp2_with fail
        with_reducible refine (HS.out _).mono ?_
        rintro e w2 ⟨rfl, ⟨m3, rfl⟩⟩
        go_wp2_with fail
        with_reducible refine (HIMP.out _ (by repeat (first | exact Below.refl _ _ | apply pw_below_drewN))).mono ?_
        rintro e w3 ⟨⟨j, rfl, hr⟩, hb3⟩
        have hj : j = y := hr.uniq HE.out
        subst hj
        have HB3 : Aside0 (Below w.heap.size w w3) := ⟨below_step (by repeat (first | exact Below.refl _ _ | apply pw_below_drewN)) hb3⟩
        clear hr hb3
        go_wp2_with fail
        with_reducible refine (works q _ (HG.out.below HB3.out)).mono ?_
        rintro e w4 ⟨rfl, hb4⟩
        have HB4 := Aside0.mk (below_step HB3.out hb4)
        clear hb4
        go_wp2_with fail
        go_ret
        exact ⟨rfl, HB4.out⟩
    · have HE := Aside0.mk (HEND.out fun h => absurd h hlt)
      go_wp2_with fail
      with_reducible refine (HIMP.out _ (by repeat (first | exact Below.refl _ _ | apply pw_below_drewN))).mono ?_
      rintro e w3 ⟨⟨j, rfl, hr⟩, hb3⟩
      have hj : j = y := hr.uniq HE.out
      subst hj
      have HB3 : Aside0 (Below w.heap.size w w3) := ⟨below_step (by repeat (first | exact Below.refl _ _ | apply pw_below_drewN)) hb3⟩
      clear hr hb3
      go_wp2_with fail
      with_reducible refine (works q _ (HG.out.below HB3.out)).mono ?_
      rintro e w4 ⟨rfl, hb4⟩
      have HB4 := Aside0.mk (below_step HB3.out hb4)
      clear hb4
      go_wp2_with fail
      go_ret
      exact ⟨rfl, HB4.out⟩
theorem wfI64 {a : Int} (h : (Lit.int .i64 a).wf = true) : -9223372036854775808 ≤ a ∧ a ≤ 9223372036854775807 := by
  have h2 : (decide (IntKind.i64.min ≤ a) && decide (a ≤ IntKind.i64.max)) = true := h
  rw [Bool.and_eq_true] at h2
  exact ⟨of_decide_eq_true h2.1, of_decide_eq_true h2.2⟩
theorem blank_walk (a0 : Option Addr) (len0 cap0 : Nat) (z0 : List Int) (a1 : Int) (w : World) (w0 : (a0 = none ∧ len0 = 0 ∧ cap0 = 0 ∧ z0 = []) ∨ ∃ x, a0 = some x ∧ len0 ≤ cap0 ∧ cap0 ≤ maxLen ∧ z0.length = cap0 ∧ (∀ i, i < z0.length → w.cell? (x.add i) = some (.int .u8 (z0.getD i 0))) ∧ ∀ n ∈ z0, (Lit.int .u8 n).wf = true) (y0 : len0 * 1 ≤ 140737488351232) (w1 : (Lit.int .i64 a1).wf = true) (hG : G Laid.goQ w) :
    Calls Tryd.prog 12 #[.slice a0 len0 cap0, .int .i64 a1] w fun e w' => e = .returned (.bool true) ∧ Below w.heap.size w w' := by
  obtain ⟨l0, rfl, hr0, hm0, hw0, hc0⟩ := ReadsInt.ofRowC w0
  have h1 := wfI64 w1
  exact blankLaw Laid.goQ _ _ l0 a1 w hG (Kd.C_of_reads (d := (0 : Int)) (h1 := fun _ => rfl) hr0) hc0 (fun x hx => by have := bytes_of l0 hw0 x hx; omega) hm0 h1.1 h1.2
end Go.Proofs.YtfkagnpdapkaaaaDoor.Err
