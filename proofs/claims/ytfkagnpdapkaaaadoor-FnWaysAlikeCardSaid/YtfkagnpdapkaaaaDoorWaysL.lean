/- FnWaysAlike: both ways tell the same end, or the same fault. -/
import Derived.Test.YtfkagnpdapkaaaaDoorWaysB
import Derived.Test.YtfkagnpdapkaaaaDoorDeepZ
import Derived.Test.YtfkagnpdapkaaaaDoorScG
import Derived.Test.YtfkagnpdapkaaaaDoorQL1
namespace Go.Proofs.YtfkagnpdapkaaaaDoor.Err
open Go.RowKit Go.Proofs.YtfkagnpdapkaaaaDoorW.PrintWords Go.Proofs.YtfkagnpdapkaaaaDoorW.PrintLast Go.Proofs.YtfkagnpdapkaaaaDoorW.PrintMore
open Go.Proofs.YtfkagnpdapkaaaaDoor.Dig Go.Proofs.YtfkagnpdapkaaaaDoor.Tab Go.Proofs.YtfkagnpdapkaaaaDoor.QF Go.Proofs.YtfkagnpdapkaaaaDoor.QL
set_option linter.unusedVariables false
theorem run_ex {L : List Int} (hl : rd L (L.length - 1) = 0) : ∀ k : Nat, ∀ x : Int, x < L.length → (L.length : Int) - x = k → ∃ z, RunTo isBlank L x z
  | 0, x, h1, h2 => by omega
  | k + 1, x, h1, h2 => by
    by_cases hb : isBlank (rd L x)
    · by_cases hx : x = (L.length : Int) - 1
      · rw [hx, hl] at hb
        exact absurd hb (by decide)
      · obtain ⟨z, hz⟩ := run_ex hl k (x + 1) (by omega) (by omega)
        exact ⟨z, by have := hz.le; omega, hz.lt, fun j h3 h4 => if h5 : j = x then by rw [h5]; exact hb else hz.all j (by omega) h4, hz.stop⟩
    · exact ⟨x, Int.le_refl _, h1, fun j h3 h4 => by omega, hb⟩
/-- A block of six cells, as it stands. -/
theorem six0 {w : World} {b : Nat} {v0 v1 v2 v3 v4 v5 : Value} {t : TypeId} (h : w.heap[b]? = some (.cells #[v0, v1, v2, v3, v4, v5] t (0, 0))) :
    w.cell? ⟨b, 0, none⟩ = some v0 ∧ w.cell? ⟨b, 1, none⟩ = some v1 ∧ w.cell? ⟨b, 2, none⟩ = some v2 ∧ w.cell? ⟨b, 3, none⟩ = some v3 ∧ w.cell? ⟨b, 4, none⟩ = some v4 ∧ w.cell? ⟨b, 5, none⟩ = some v5 := by
  refine ⟨?_, ?_, ?_, ?_, ?_, ?_⟩ <;> simp [World.cell?, h]
/-- Both walks tell one outcome, whatever depth the law lets in. -/
theorem ways_out (q : ByteArray → ByteArray) (l : List Int) (x n : Int) (hl : l.length ≤ 10000) (h0 : 0 ≤ x) (h1 : x ≤ l.length) (hn0 : 0 ≤ n) (hn1 : n ≤ 9223372036854775807) (hn : n + l.length ≤ 10000 ∨ 9223372036854775808 ≤ n + l.length) :
    ∃ O : Out, (∀ s, O = .fault s → 0 ≤ s.va ∧ s.va ≤ 20000) ∧
      (∀ ad cc W, G q W → Buf W ad cc (l ++ [0]) → Calls Tryd.prog 86 #[.slice (some ad) (l ++ [0]).length cc, .int .i64 x, .int .i64 n] W (Told O W)) ∧
      (∀ ad cc W, G q W → Buf W ad cc (l ++ [0]) → Calls Tryd.prog 88 #[.slice (some ad) (l ++ [0]).length cc, .int .i64 x, .int .i64 n, .int .i64 0, .int .u64 0, .int .u8 0] W (Told O W)) := by
  have hlen : ((l ++ [(0 : Int)]).length : Int) = l.length + 1 := by rw [List.length_append]; rfl
  have hva : ∀ s, out q (l ++ [0]) .val [] x = .fault s → 0 ≤ s.va ∧ s.va ≤ 20000 := fun s hs => out_va h0 (by omega) (by omega) hs
  rcases hn with hn | hn
  · exact ⟨out q (l ++ [0]) .val [] x, hva, fun ad cc W hG hB => skipValue q (gramSaid q) ad cc _ x n W hG hB h0 (by omega) (by omega) hn0, fun ad cc W hG hB => (gramSaid q).call ad cc _ x n 0 0 [] W hG hB h0 (by omega) rep_nil h0 (by omega) (by omega)⟩
  · obtain ⟨z, hz⟩ := run_ex (L := l ++ [0]) (by rw [hlen, Int.add_sub_cancel]; exact rd_last l 0) (l.length + 1 - x).toNat x (by omega) (by omega)
    by_cases hbr : rd (l ++ [0]) z = 123 ∨ rd (l ++ [0]) z = 91
    · exact ⟨.fault (deepSE q (l ++ [0]) z), fun s hs => by cases hs; exact ⟨Int.le_refl _, show (0 : Int) ≤ 20000 by decide⟩, fun ad cc W hG hB => valDeep q ad cc _ x z n W hG hB h0 (by omega) hn1 hz hbr, fun ad cc W hG hB => gramDeep q ad cc _ x z n W hG hB h0 (by omega) hn1 hz hbr⟩
    · have hnb : ∀ y, RunTo isBlank (l ++ [0]) x y → rd (l ++ [0]) y ≠ 123 ∧ rd (l ++ [0]) y ≠ 91 := fun y hy => by
        have e : y = z := by
          by_cases h1 : y < z
          · exact absurd (hz.all y hy.le h1) hy.stop
          · by_cases h2 : z < y
            · exact absurd (hy.all z hz.le h2) hz.stop
            · omega
        rw [e]
        exact ⟨fun h => hbr (.inl h), fun h => hbr (.inr h)⟩
      exact ⟨out q (l ++ [0]) .val [] x, hva, fun ad cc W hG hB => valZ q ad cc _ x n W hG hB h0 (by omega) hnb, fun ad cc W hG hB => gramZ q ad cc _ x n W hG hB h0 (by omega) hn0 hn1 hnb⟩
theorem fitsW (A : Option Addr) (c : Nat) (l : List Int) (i : Int) (w : World) (hC : Kd.C (Kd.int .u8) w A l.length l) (hcap : l.length ≤ c) : Calls Tryd.prog 24 #[.slice A l.length c, .int .i64 i] w fun e w' => e = .returned (.bool (decide (l.length ≤ 10000 ∧ 0 ≤ i ∧ i ≤ l.length))) ∧ Drawn0 w w' := by
  refine laws_fits.calls A c l i _ w hC hcap ?_
  unfold laws_fits.f
  by_cases h1 : (l.length : Int) ≤ 10000
  · rw [if_pos h1]
    by_cases h2 : i ≥ 0
    · rw [if_pos h2]
      congr 1
      rw [Bool.eq_iff_iff]
      simp
      omega
    · rw [if_neg h2, decide_eq_false (by omega)]
  · rw [if_neg h1, decide_eq_false (by omega)]
theorem depthW (A : Option Addr) (c : Nat) (l : List Int) (n : Int) (w : World) (hC : Kd.C (Kd.int .u8) w A l.length l) (hcap : l.length ≤ c) : Calls Tryd.prog 29 #[.slice A l.length c, .int .i64 n] w fun e w' => e = .returned (.bool (decide (0 ≤ n ∧ wrap64 (n + l.length) ≤ 10000))) ∧ Drawn0 w w' := by
  refine laws_depthOk.calls A c l n _ w hC hcap ?_
  unfold laws_depthOk.f
  by_cases h1 : n ≥ 0
  · rw [if_pos h1]
    congr 1
    rw [Bool.eq_iff_iff]
    simp
    omega
  · rw [if_neg h1, decide_eq_false (by omega)]
set_option maxRecDepth 100000 in
set_option maxHeartbeats 8000000 in
theorem waysLaw (q : ByteArray → ByteArray) (A : Option Addr) (c : Nat) (l : List Int) (x n : Int) (w : World) (hG : G q w) (hC : Kd.C (Kd.int .u8) w A l.length l) (hcap : l.length ≤ c) (hb : ∀ y, y ∈ l → 0 ≤ y ∧ y < 256) (hm : l.length ≤ maxLen) (hn : -9223372036854775808 ≤ n ∧ n ≤ 9223372036854775807) :
    Calls Tryd.prog 11 #[.slice A l.length c, .int .i64 x, .int .i64 n] w fun e w' => e = .returned (.bool true) ∧ Below w.heap.size w w' := by
  unfold maxLen at hm
  have HF : Aside0 (∀ W, Below w.heap.size w W → Calls Tryd.prog 24 #[.slice A l.length c, .int .i64 x] W fun e w' => e = .returned (.bool (decide (l.length ≤ 10000 ∧ 0 ≤ x ∧ x ≤ l.length))) ∧ Drawn0 W w') := ⟨fun W hW => fitsW A c l x W (Kd.C_below hC hW) hcap⟩
  have HD : Aside0 (∀ W, Below w.heap.size w W → Calls Tryd.prog 29 #[.slice A l.length c, .int .i64 n] W fun e w' => e = .returned (.bool (decide (0 ≤ n ∧ wrap64 (n + l.length) ≤ 10000))) ∧ Drawn0 W w') := ⟨fun W hW => depthW A c l n W (Kd.C_below hC hW) hcap⟩
  have HC := Aside0.mk hC
  have HBY := Aside0.mk hb
  have HG := Aside0.mk hG
  clear hC hb hG
  by_cases z1 : (l.length : Int) > 2147483647
  · go_enter Tryd.func11, Tryd.ntmps11
    go_wp2_with fail
    all_goals
      go_ret
      exact ⟨rfl, Below.refl _ _⟩
  by_cases z2 : l.length ≤ 10000 ∧ 0 ≤ x ∧ x ≤ l.length
  rotate_left
  · have HF2 : Aside0 (∀ W, Below w.heap.size w W → Calls Tryd.prog 24 #[.slice A l.length c, .int .i64 x] W fun e w' => e = .returned (.bool false) ∧ Drawn0 W w') := ⟨fun W hW => by have := HF.out W hW; rw [decide_eq_false z2] at this; exact this⟩
    clear z2
    go_enter Tryd.func11, Tryd.ntmps11
    go_wp2_with fail
    with_reducible refine (HF2.out _ (Below.refl _ _)).mono ?_
    rintro e w1 ⟨rfl, ⟨m1, rfl⟩⟩
    go_wp2_with fail
    go_ret
    exact ⟨rfl, pw_below_drewN (Below.refl _ _) _⟩
  have HF2 : Aside0 (∀ W, Below w.heap.size w W → Calls Tryd.prog 24 #[.slice A l.length c, .int .i64 x] W fun e w' => e = .returned (.bool true) ∧ Drawn0 W w') := ⟨fun W hW => by have := HF.out W hW; rw [decide_eq_true z2] at this; exact this⟩
  by_cases z3 : 0 ≤ n ∧ wrap64 (n + l.length) ≤ 10000
  rotate_left
  · have HD2 : Aside0 (∀ W, Below w.heap.size w W → Calls Tryd.prog 29 #[.slice A l.length c, .int .i64 n] W fun e w' => e = .returned (.bool false) ∧ Drawn0 W w') := ⟨fun W hW => by have := HD.out W hW; rw [decide_eq_false z3] at this; exact this⟩
    clear z3
    go_enter Tryd.func11, Tryd.ntmps11
    go_wp2_with fail
    with_reducible refine (HF2.out _ (Below.refl _ _)).mono ?_
    rintro e w1 ⟨rfl, ⟨m1, rfl⟩⟩
    go_wp2_with fail
    with_reducible refine (HD2.out _ (pw_below_drewN (Below.refl _ _) _)).mono ?_
    rintro e w1 ⟨rfl, ⟨m2, rfl⟩⟩
    go_wp2_with fail
    go_ret
    exact ⟨rfl, pw_below_drewN (Below.refl _ _) _⟩
  have HD2 : Aside0 (∀ W, Below w.heap.size w W → Calls Tryd.prog 29 #[.slice A l.length c, .int .i64 n] W fun e w' => e = .returned (.bool true) ∧ Drawn0 W w') := ⟨fun W hW => by have := HD.out W hW; rw [decide_eq_true z3] at this; exact this⟩
  obtain ⟨y1, y2, y3⟩ := z2
  obtain ⟨O, hva, h86, h88⟩ := ways_out q l x n y1 y2 y3 z3.1 hn.2 (by
    have h := z3.2
    unfold wrap64 at h
    omega)
  have HV : Aside0 (∀ W, Below w.heap.size w W → Calls Tryd.prog 34 #[.slice A l.length c, .int .i64 x, .int .i64 n] W fun e w' => e = .returned (toldV O) ∧ Below W.heap.size W w') := ⟨fun W hW => told34 q A c l x n W (HG.out.below hW) (Kd.C_below HC.out hW) hcap HBY.out y2 y3 y1 O hva h86⟩
  have HS : Aside0 (∀ W, Below w.heap.size w W → Calls Tryd.prog 36 #[.slice A l.length c, .int .i64 x, .int .i64 n] W fun e w' => e = .returned (toldV O) ∧ Below W.heap.size W w') := ⟨fun W hW => told36 q A c l x n W (HG.out.below hW) (Kd.C_below HC.out hW) hcap HBY.out y2 y3 y1 O hva h88⟩
  clear h86 h88 hva z3 HF HD HC HBY hn
  go_enter Tryd.func11, Tryd.ntmps11
  go_wp2_with fail
  with_reducible refine (HF2.out _ (Below.refl _ _)).mono ?_
  rintro e w1 ⟨rfl, ⟨m1, rfl⟩⟩
  go_wp2_with fail
  with_reducible refine (HD2.out _ (pw_below_drewN (Below.refl _ _) _)).mono ?_
  rintro e w1 ⟨rfl, ⟨m2, rfl⟩⟩
  go_wp2_with fail
  with_reducible refine (HV.out _ (pw_below_drewN (Below.refl _ _) _)).mono ?_
  rintro e w3 ⟨rfl, hb3⟩
  have HB3 := Aside0.mk (below_step (pw_below_drewN (Below.refl w.heap.size w) _) hb3)
  clear hb3
  cases O with
  | done d =>
    unfold toldV noFault at *
    go_wp2_with fail
    with_reducible refine (HS.out _ (below_alloc HB3.out _)).mono ?_
    rintro e w4 ⟨rfl, hb4⟩
    have hblk := (hb4.block w3.heap.size (blk_lt' (blk_new w3 _))).trans (blk_new w3 _)
    have HB4 := Aside0.mk (below_step (below_alloc HB3.out _) hb4)
    have HBLK := Aside0.mk hblk
    clear hb4 hblk
    go_wp2_with fail
    with_reducible refine (works q _ (HG.out.below (below_alloc HB4.out _))).mono ?_
    rintro e w5 ⟨rfl, hb5⟩
    obtain ⟨c0, c1, c2, c3, c4, c5⟩ := six0 ((hb5.block w3.heap.size (Nat.lt_of_lt_of_le (blk_lt' HBLK.out) (below_alloc (Below.refl _ w4) _).size)).trans ((Below.heap_alloc w4 _ _ (blk_lt' HBLK.out)).trans HBLK.out))
    obtain ⟨d0, d1, d2, d3, d4, d5⟩ := six0 ((hb5.block w4.heap.size (blk_lt' (blk_new w4 _))).trans (blk_new w4 _))
    have HB5 := Aside0.mk (below_step (below_alloc HB4.out _) hb5)
    clear hb5
    go_wp2_with fail
    go_ret
    exact ⟨rfl, HB5.out⟩
  | fault s =>
    unfold toldV faultV at *
    go_wp2_with fail
    with_reducible refine (HS.out _ (below_alloc HB3.out _)).mono ?_
    rintro e w4 ⟨rfl, hb4⟩
    have hblk := (hb4.block w3.heap.size (blk_lt' (blk_new w3 _))).trans (blk_new w3 _)
    have HB4 := Aside0.mk (below_step (below_alloc HB3.out _) hb4)
    have HBLK := Aside0.mk hblk
    clear hb4 hblk
    go_wp2_with fail
    with_reducible refine (works q _ (HG.out.below (below_alloc HB4.out _))).mono ?_
    rintro e w5 ⟨rfl, hb5⟩
    obtain ⟨c0, c1, c2, c3, c4, c5⟩ := six0 ((hb5.block w3.heap.size (Nat.lt_of_lt_of_le (blk_lt' HBLK.out) (below_alloc (Below.refl _ w4) _).size)).trans ((Below.heap_alloc w4 _ _ (blk_lt' HBLK.out)).trans HBLK.out))
    obtain ⟨d0, d1, d2, d3, d4, d5⟩ := six0 ((hb5.block w4.heap.size (blk_lt' (blk_new w4 _))).trans (blk_new w4 _))
    have HB5 := Aside0.mk (below_step (below_alloc HB4.out _) hb5)
    clear hb5
    go_wp2_with fail
    go_ret
    exact ⟨rfl, HB5.out⟩
theorem ways_walk (a0 : Option Addr) (len0 cap0 : Nat) (z0 : List Int) (a1 a2 : Int) (w : World) (w0 : (a0 = none ∧ len0 = 0 ∧ cap0 = 0 ∧ z0 = []) ∨ ∃ x, a0 = some x ∧ len0 ≤ cap0 ∧ cap0 ≤ maxLen ∧ z0.length = cap0 ∧ (∀ i, i < z0.length → w.cell? (x.add i) = some (.int .u8 (z0.getD i 0))) ∧ ∀ n ∈ z0, (Lit.int .u8 n).wf = true) (y0 : len0 * 1 ≤ 140737488351232) (w1 : (Lit.int .i64 a1).wf = true) (w2 : (Lit.int .i64 a2).wf = true) (hG : G Laid.goQ w) :
    Calls Tryd.prog 11 #[.slice a0 len0 cap0, .int .i64 a1, .int .i64 a2] w fun e w' => e = .returned (.bool true) ∧ Below w.heap.size w w' := by
  obtain ⟨l0, rfl, hr0, hm0, hw0, hc0⟩ := ReadsInt.ofRowC w0
  have h2 : -9223372036854775808 ≤ a2 ∧ a2 ≤ 9223372036854775807 := by
    have h3 : (decide (IntKind.i64.min ≤ a2) && decide (a2 ≤ IntKind.i64.max)) = true := w2
    rw [Bool.and_eq_true] at h3
    exact ⟨of_decide_eq_true h3.1, of_decide_eq_true h3.2⟩
  exact waysLaw Laid.goQ _ _ l0 a1 a2 w hG (Kd.C_of_reads (d := (0 : Int)) (h1 := fun _ => rfl) hr0) hc0 (fun x hx => by have := bytes_of l0 hw0 x hx; omega) hm0 h2
end Go.Proofs.YtfkagnpdapkaaaaDoor.Err
