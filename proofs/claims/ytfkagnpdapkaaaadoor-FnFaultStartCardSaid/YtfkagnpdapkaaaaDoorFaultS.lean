/- FnFaultStart: a byte that begins no value where one is waited for is told with its place, and no other fault so. -/
import Derived.Test.YtfkagnpdapkaaaaDoorFaultW
namespace Go.Proofs.YtfkagnpdapkaaaaDoor.Err
open Go.RowKit Go.Proofs.YtfkagnpdapkaaaaDoorW.PrintWords Go.Proofs.YtfkagnpdapkaaaaDoorW.PrintLast Go.Proofs.YtfkagnpdapkaaaaDoorW.PrintMore
open Go.Proofs.YtfkagnpdapkaaaaDoor.Dig Go.Proofs.YtfkagnpdapkaaaaDoor.Tab Go.Proofs.YtfkagnpdapkaaaaDoor.QF
set_option linter.unusedVariables false
section
variable {q : ByteArray → ByteArray}
/-- What the start law builds to compare the words with. -/
def startWords (q : ByteArray → ByteArray) (c : Int) : ByteArray := wInvalid ++ quoted q c ++ ⟨#[32, 108, 111, 111, 107, 105, 110, 103, 32, 102, 111, 114, 32, 98, 101, 103, 105, 110, 110, 105, 110, 103, 32, 111, 102, 32, 118, 97, 108, 117, 101]⟩
theorem startWords_eq (q : ByteArray → ByteArray) (c : Int) : startWords q c = badWords q c wValue := by
  unfold startWords badWords
  rw [ByteArray.append_assoc (a := wInvalid ++ quoted q c)]
  rfl
theorem blk_keep {w w' : World} {b n : Nat} {o X : Obj} (h : w.heap[b]? = some o) (hb : Below ((w.alloc X).drewN n).heap.size ((w.alloc X).drewN n) w') : w'.heap[b]? = some o := by
  have hlt := blk_lt' h
  rw [hb.block b (by show b < (w.alloc X).heap.size; simp; omega)]
  exact (Below.heap_alloc w X b hlt).trans h
theorem blk_keep2 {w w' : World} {n : Nat} {X : Obj} (hb : Below ((w.alloc X).drewN n).heap.size ((w.alloc X).drewN n) w') : w'.heap[w.heap.size]? = some X := by
  rw [hb.block w.heap.size (by show w.heap.size < (w.alloc X).heap.size; simp)]
  exact blk_new w X
theorem faultO_some (m : ByteArray) (off va : Int) (e : Bool) : faultO (some ⟨m, off, e, va⟩) = .tuple #[.agg #[.bool true, .int .i64 off, .string m, .bool e, .bool (started va), .int .i64 (startAt va)], .bool true] := rfl
/-- A world in which what was there still is. -/
def HoldB (W w' : World) : Prop := Below W.heap.size W w'
theorem HoldB.drew {W w' : World} (h : HoldB W w') : HoldB W w'.drew := Below.drew h
set_option maxRecDepth 100000 in
set_option maxHeartbeats 8000000 in
theorem startLaw (A : Option Addr) (c : Nat) (l : List Int) (w : World) (hG : G q w) (hC : Kd.C (Kd.int .u8) w A l.length l) (hcap : l.length ≤ c) (hb : ∀ y, y ∈ l → 0 ≤ y ∧ y < 256) (hm : l.length ≤ maxLen) :
    Calls Tryd.prog 3 #[.slice A l.length c] w fun e w' => e = .returned (.bool true) ∧ Below w.heap.size w w' := by
  unfold maxLen at hm
  by_cases z1 : (l.length : Int) > 2147483647
  · clear hC hb hG
    go_enter Tryd.func3, Tryd.ntmps3
    go_wp2_with fail
    go_ret
    exact ⟨rfl, Below.refl _ _⟩
  by_cases z2 : (l.length : Int) > 10000
  · clear hC hb hG
    go_enter Tryd.func3, Tryd.ntmps3
    go_wp2_with fail
    go_ret
    exact ⟨rfl, Below.refl _ _⟩
  have HF := Aside0.mk (fctx A c l w hG hC hcap hb (by omega))
  have HWK : Aside0 (∀ W, Below w.heap.size w W → Calls Tryd.prog 22 #[] W fun e w' => e = .returned (.bool true) ∧ Below W.heap.size W w') := ⟨fun W hW => works q W (hG.below hW)⟩
  have HQ : Aside0 (∀ W x, 0 ≤ x → x < 256 → Below w.heap.size w W → Calls Tryd.prog 21 #[.int .u8 x] W fun e w' => e = .returned (.string (quoted q x)) ∧ Below W.heap.size W w') := ⟨fun W x h0 h1 hW => sQuoted q x W (hG.below hW) h0 h1⟩
  have HQS : Aside0 (∀ x, 0 ≤ x → x < 256 → (quoted q x).size ≤ 2000) := ⟨fun x h0 h1 => quoted_size q x w hG h0 h1⟩
  have HC := Aside0.mk hC
  have HBY := Aside0.mk hb
  clear hC hb hG
  go_enter Tryd.func3, Tryd.ntmps3
  go_wp2_with fail
  with_reducible refine HF.out.got.mono ?_
  rintro e w1 ⟨r, hT, hr, rfl, hb1⟩
  have HB1 := Aside0.mk hb1
  rcases both hT hr with ⟨hff, rfl⟩ | ⟨k, e, m, va, hff, rfl, hk, he1, he0⟩
  · have HD : Aside0 (∀ W, Below w.heap.size w W → Calls Tryd.prog 20 #[.slice A l.length c] W fun e w' => e = .returned (.tuple #[.agg #[.int .i64 0, .bool false, .string ByteArray.empty], .bool false]) ∧ Below W.heap.size W w') := ⟨fun W hW => by have := HF.out.due W hW; rw [hff] at this; exact this⟩
    clear hr hT hff hb1
    unfold faultO noFault
    go_wp2_with fail
    with_reducible refine (HD.out _ (below_alloc HB1.out _)).mono ?_
    rintro e w2 ⟨rfl, hb2⟩
    have hblk := (hb2.block w1.heap.size (blk_lt' (blk_new w1 _))).trans (blk_new w1 _)
    obtain ⟨c0, c1, c2, c3, c4, c5, k0, k1, k2, k3, k4, k5⟩ := six' hblk
    have HB2 := Aside0.mk (below_step (below_alloc HB1.out _) hb2)
    have HBK := Aside0.mk hblk
    clear hblk hb2
    go_wp2_with fail
    go_quiet (fail)
    go_wp2_with fail
    with_reducible refine (HWK.out _ (pw_below_drewN (below_alloc HB2.out _) _)).mono ?_
    rintro e w3 ⟨rfl, hb3⟩
    clear c0 c1 c2 c3 c4 c5 k0 k1 k2 k3 k4 k5
    obtain ⟨c0, c1, c2, c3, c4, c5, _⟩ := six (blk_keep HBK.out hb3)
    have HB3 := Aside0.mk (below_step (pw_below_drewN (below_alloc HB2.out _) _) hb3)
    clear hb3
    go_wp2_with fail
    go_ret
    exact ⟨rfl, HB3.out⟩
  · have HD : Aside0 (∀ W, Below w.heap.size w W → Calls Tryd.prog 20 #[.slice A l.length c] W fun e' w' => e' = .returned (.tuple #[.agg #[.int .i64 k, .bool e, .string m], .bool true]) ∧ Below W.heap.size W w') := ⟨fun W hW => by have := HF.out.due W hW; rw [hff] at this; exact this⟩
    clear hr hT hff hb1
    rw [faultO_some]
    generalize (if e = true then (k : Int) else (k : Int) + 1) = off
    cases e with
    | true =>
      obtain ⟨rfl, hkl⟩ := he1 rfl
      have e1 : started 0 = false := rfl
      rw [e1]
      clear he1 he0 e1 hkl
      go_wp2_with fail
      with_reducible refine (HD.out _ (below_alloc HB1.out _)).mono ?_
      rintro e w2 ⟨rfl, hb2⟩
      have hblk := (hb2.block w1.heap.size (blk_lt' (blk_new w1 _))).trans (blk_new w1 _)
      obtain ⟨c0, c1, c2, c3, c4, c5, k0, k1, k2, k3, k4, k5⟩ := six' hblk
      have HB2 := Aside0.mk (below_step (below_alloc HB1.out _) hb2)
      have HBK := Aside0.mk hblk
      clear hblk hb2
      go_wp2_with fail
      go_quiet (fail)
      go_wp2_with fail
      with_reducible refine (HWK.out _ (pw_below_drewN (below_alloc HB2.out _) _)).mono ?_
      rintro e w3 ⟨rfl, hb3⟩
      clear c0 c1 c2 c3 c4 c5 k0 k1 k2 k3 k4 k5
      obtain ⟨c0, c1, c2, c3, c4, c5, _⟩ := six (blk_keep HBK.out hb3)
      have HB3 := Aside0.mk (below_step (pw_below_drewN (below_alloc HB2.out _) _) hb3)
      clear hb3
      go_wp2_with fail
      go_ret
      exact ⟨rfl, HB3.out⟩
    | false =>
      obtain ⟨hkl, hva⟩ := he0 rfl
      clear he1 he0
      obtain ⟨ad, rfl, hx0⟩ := Kd.at_int HC.out k (by omega) (by omega)
      rw [Int.toNat_natCast] at hx0
      have hby := HBY.out (rd l k) (by obtain ⟨hh, e⟩ := rd_get l k (by omega) (by omega); rw [e]; exact List.getElem_mem _)
      have hqs := HQS.out _ hby.1 hby.2
      obtain ⟨x, hx⟩ : ∃ x, x = rd l k := ⟨_, rfl⟩
      rw [← hx] at hby hqs hx0 hva
      have hST : ∃ B : Bool, (m.toList == (startWords q x).toList) = B ∧ started va = B ∧ (B = true → startAt va = k) := by
        rw [startWords_eq]
        rcases hva with ⟨rfl, h⟩ | ⟨rfl, rfl⟩
        · exact ⟨false, beq_eq_false_iff_ne.mpr fun h2 => h (ByteArray.ext (Array.toList_inj.1 (by rw [← ByteArray.toList_eq, ← ByteArray.toList_eq]; exact h2))), rfl, fun h => by cases h⟩
        · refine ⟨true, by simp, ?_, fun _ => ?_⟩
          · unfold started; exact bne_iff_ne.mpr (by omega)
          · unfold startAt; rw [if_neg (by omega)]; omega
      obtain ⟨B, hB1, hB2, hB3⟩ := hST
      rw [hB2]
      generalize startAt va = sa at hB3 ⊢
      have HX := Aside0.mk hx0
      have HXX := Aside0.mk hx
      have HXC : Aside0 (∀ W, Below w.heap.size w W → W.cell? (ad.add k) = some (.int .u8 x)) := ⟨fun W hW => by
        obtain ⟨ad', e', h'⟩ := Kd.at_int (Kd.C_below HC.out hW) k (by omega) (by omega)
        cases e'
        rw [Int.toNat_natCast] at h'
        rw [h', HXX.out]⟩
      clear hva hx0 hx hB2
      go_wp2_with fail
      with_reducible refine (HD.out _ (below_alloc HB1.out _)).mono ?_
      rintro e w2 ⟨rfl, hb2⟩
      have hblk := (hb2.block w1.heap.size (blk_lt' (blk_new w1 _))).trans (blk_new w1 _)
      obtain ⟨c0, c1, c2, c3, c4, c5, k0, k1, k2, k3, k4, k5⟩ := six' hblk
      have HB2 := Aside0.mk (below_step (below_alloc HB1.out _) hb2)
      have HBK := Aside0.mk hblk
      clear hblk hb2
      have HCE : Aside0 (∀ W', HoldB (w2.alloc (.cells #[.int .i64 k, .bool false, .string m] 28)) W' → W'.cell? ⟨w2.heap.size, 0, none⟩ = some (.int .i64 k) ∧ W'.cell? ⟨w2.heap.size, 1, none⟩ = some (.bool false) ∧ W'.cell? ⟨w2.heap.size, 2, none⟩ = some (.string m) ∧ W'.cell? (ad.add k) = some (.int .u8 x)) := ⟨fun W' h => by
        obtain ⟨m0, m1, m2, _⟩ := blk_3 (blk_keep2 (n := 0) h)
        exact ⟨m0, m1, m2, HXC.out W' (below_step (below_alloc HB2.out _) h)⟩⟩
      have HQ2 : Aside0 (∀ W', HoldB (w2.alloc (.cells #[.int .i64 k, .bool false, .string m] 28)) W' → Calls Tryd.prog 21 #[.int .u8 x] W' fun e w' => e = .returned (.string (quoted q x)) ∧ w'.cell? ⟨w2.heap.size, 0, none⟩ = some (.int .i64 k) ∧ w'.cell? ⟨w2.heap.size, 1, none⟩ = some (.bool false) ∧ w'.cell? ⟨w2.heap.size, 2, none⟩ = some (.string m) ∧ w'.cell? (ad.add k) = some (.int .u8 x) ∧ HoldB (w2.alloc (.cells #[.int .i64 k, .bool false, .string m] 28)) w') := ⟨fun W' h => (HQ.out W' x hby.1 hby.2 (below_step (below_alloc HB2.out _) h)).mono fun e w' ⟨h1, h2⟩ => by
        have h3 : HoldB (w2.alloc (.cells #[.int .i64 k, .bool false, .string m] 28)) w' := below_step h h2
        obtain ⟨y0, y1, y2, y3⟩ := HCE.out w' h3
        exact ⟨h1, y0, y1, y2, y3, h3⟩⟩
      obtain ⟨x0, x1, x2, x3⟩ := HCE.out _ (Below.refl _ _)
      have x4 : HoldB (w2.alloc (.cells #[.int .i64 k, .bool false, .string m] 28)) (w2.alloc (.cells #[.int .i64 k, .bool false, .string m] 28)) := Below.refl _ _
      unfold startWords at hB1
      have hz1 : ¬ 9223372036854775807 < 18 + (quoted q x).size := by omega
      have hz2 : ¬ 9223372036854775807 < 18 + (quoted q x).size + 31 := by omega
      go_upto_region 7 with (fail)
      go_region_held3 (fun w' => w'.cell? ⟨w2.heap.size, 0, none⟩ = some (.int .i64 k) ∧ w'.cell? ⟨w2.heap.size, 1, none⟩ = some (.bool false) ∧ w'.cell? ⟨w2.heap.size, 2, none⟩ = some (.string m) ∧ w'.cell? (ad.add k) = some (.int .u8 x) ∧ HoldB (w2.alloc (.cells #[.int .i64 k, .bool false, .string m] 28)) w') (first | (refine ⟨?_, ?_, ?_, ?_, ?_⟩ <;> first | assumption | exact HoldB.drew ‹_›) | go_keep) (first
        | (go_at_call 21; with_reducible refine (HQ2.out _ ?_).mono ?_; (apply And.right; apply And.right; apply And.right; apply And.right; assumption); rintro e w9 ⟨rfl, y3, y4, y5, y6, y7⟩))
      all_goals
        have HW9 := Aside0.mk (below_step (below_alloc HB2.out _) y7)
        have HY7 := Aside0.mk y7
        rename_i hHeld
        clear hHeld y3 y4 y5 y6 y7 x0 x1 x2 x3 x4 c0 c1 c2 c3 c4 c5 k0 k1 k2 k3 k4 k5
        cases B with
        | true =>
          obtain rfl := hB3 rfl
          clear hB3
          go_wp2_with fail
          with_reducible refine (HWK.out _ HW9.out).mono ?_
          rintro e w3 ⟨rfl, hb3⟩
          have hb4 := below_step HY7.out hb3
          obtain ⟨c0, c1, c2, c3, c4, c5, _⟩ := six (blk_keep (n := 0) HBK.out hb4)
          obtain ⟨d0, _⟩ := blk_3 (blk_keep2 (n := 0) hb4)
          have HB3 := Aside0.mk (below_step HW9.out hb3)
          clear hb3 hb4
          go_wp2_with fail
          go_ret
          exact ⟨rfl, HB3.out⟩
        | false =>
          clear hB3
          go_wp2_with fail
          with_reducible refine (HWK.out _ HW9.out).mono ?_
          rintro e w3 ⟨rfl, hb3⟩
          have hb4 := below_step HY7.out hb3
          obtain ⟨c0, c1, c2, c3, c4, c5, _⟩ := six (blk_keep (n := 0) HBK.out hb4)
          have HB3 := Aside0.mk (below_step HW9.out hb3)
          clear hb3 hb4
          go_wp2_with fail
          go_ret
          exact ⟨rfl, HB3.out⟩
end
theorem start_walk (a0 : Option Addr) (len0 cap0 : Nat) (z0 : List Int) (w : World) (w0 : (a0 = none ∧ len0 = 0 ∧ cap0 = 0 ∧ z0 = []) ∨ ∃ x, a0 = some x ∧ len0 ≤ cap0 ∧ cap0 ≤ maxLen ∧ z0.length = cap0 ∧ (∀ i, i < z0.length → w.cell? (x.add i) = some (.int .u8 (z0.getD i 0))) ∧ ∀ n ∈ z0, (Lit.int .u8 n).wf = true) (y0 : len0 * 1 ≤ 140737488351232) (hG : G Laid.goQ w) :
    Calls Tryd.prog 3 #[.slice a0 len0 cap0] w fun e w' => e = .returned (.bool true) ∧ Below w.heap.size w w' := by
  obtain ⟨l0, rfl, hr0, hm0, hw0, hc0⟩ := ReadsInt.ofRowC w0
  exact startLaw _ _ l0 w hG (Kd.C_of_reads (d := (0 : Int)) (h1 := fun _ => rfl) hr0) hc0 (fun x hx => by have := bytes_of l0 hw0 x hx; omega) hm0
end Go.Proofs.YtfkagnpdapkaaaaDoor.Err
