/- The thin package's ValueEnd and ValueEndBySteps, for whatever outcome the walk below them tells. -/
import Derived.Test.YtfkagnpdapkaaaaDoorScG
namespace Go.Proofs.YtfkagnpdapkaaaaDoor.Err
open Go.RowKit Go.Proofs.YtfkagnpdapkaaaaDoorW.PrintWords Go.Proofs.YtfkagnpdapkaaaaDoorW.PrintLast Go.Proofs.YtfkagnpdapkaaaaDoorW.PrintMore
open Go.Proofs.YtfkagnpdapkaaaaDoor.Dig Go.Proofs.YtfkagnpdapkaaaaDoor.Tab Go.Proofs.YtfkagnpdapkaaaaDoor.QF
set_option linter.unusedVariables false
set_option maxRecDepth 100000 in
set_option maxHeartbeats 4000000 in
theorem ways62 (q : ByteArray → ByteArray) (ad : Addr) (c : Nat) (L : List Int) (x n : Int) (O : Out) (w : World) (hc : Calls Tryd.prog 86 #[.slice (some ad) L.length c, .int .i64 x, .int .i64 n] w (Told O w)) :
    Calls Tryd.prog 62 #[.slice (some ad) L.length c, .int .i64 x, .int .i64 n] w (Told O w) := by
  have HC := Aside0.mk hc
  clear hc
  go_enter Tryd.func62, Tryd.ntmps62
  go_wp2_with fail
  with_reducible refine HC.out.mono ?_
  rintro e w4 ⟨hb, ⟨d, hd, rfl⟩ | ⟨s, v, hs, hv, rfl⟩⟩
  · have HB4 := Aside0.mk hb
    have HO2 := Aside0.mk hd
    clear hb hd
    go_wp2_with fail
    go_ret2
    exact ⟨HB4.out, .inl ⟨d, HO2.out, rfl⟩⟩
  · have HB4 := Aside0.mk hb
    have HO2 := Aside0.mk hs
    have HV := Aside0.mk hv
    clear hb hs hv
    go_wp2_with fail
    go_ret2
    exact ⟨HB4.out, .inr ⟨s, v, HO2.out, HV.out, rfl⟩⟩
set_option maxRecDepth 100000 in
set_option maxHeartbeats 4000000 in
theorem ways63 (q : ByteArray → ByteArray) (ad : Addr) (c : Nat) (L : List Int) (x n : Int) (O : Out) (w : World) (hc : Calls Tryd.prog 88 #[.slice (some ad) L.length c, .int .i64 x, .int .i64 n, .int .i64 0, .int .u64 0, .int .u8 0] w (Told O w)) :
    Calls Tryd.prog 63 #[.slice (some ad) L.length c, .int .i64 x, .int .i64 n] w (Told O w) := by
  have HC := Aside0.mk hc
  clear hc
  go_enter Tryd.func63, Tryd.ntmps63
  go_wp2_with fail
  with_reducible refine HC.out.mono ?_
  rintro e w4 ⟨hb, ⟨d, hd, rfl⟩ | ⟨s, v, hs, hv, rfl⟩⟩
  · have HB4 := Aside0.mk hb
    have HO2 := Aside0.mk hd
    clear hb hd
    go_wp2_with fail
    go_ret2
    exact ⟨HB4.out, .inl ⟨d, HO2.out, rfl⟩⟩
  · have HB4 := Aside0.mk hb
    have HO2 := Aside0.mk hs
    have HV := Aside0.mk hv
    clear hb hs hv
    go_wp2_with fail
    go_ret2
    exact ⟨HB4.out, .inr ⟨s, v, HO2.out, HV.out, rfl⟩⟩
set_option maxRecDepth 100000 in
set_option maxHeartbeats 8000000 in
theorem told34 (q : ByteArray → ByteArray) (A : Option Addr) (c : Nat) (l : List Int) (x n : Int) (w : World) (hG : G q w) (hC : Kd.C (Kd.int .u8) w A l.length l) (hcap : l.length ≤ c) (hb : ∀ y, y ∈ l → 0 ≤ y ∧ y < 256) (h0 : 0 ≤ x) (h1 : x ≤ l.length) (hl : l.length ≤ 10000) (O : Out) (hva : ∀ s, O = .fault s → 0 ≤ s.va ∧ s.va ≤ 20000)
    (hc : ∀ ad cc W, G q W → Buf W ad cc (l ++ [0]) → Calls Tryd.prog 86 #[.slice (some ad) (l ++ [0]).length cc, .int .i64 x, .int .i64 n] W (Told O W)) :
    Calls Tryd.prog 34 #[.slice A l.length c, .int .i64 x, .int .i64 n] w fun e w' => e = .returned (toldV O) ∧ Below w.heap.size w w' := by
  have HI : Aside0 (∀ W, Below w.heap.size w W → Calls Tryd.prog 51 #[.slice A l.length c] W fun e w' => ∃ ad cc L, e = .returned (.slice (some ad) L.length cc) ∧ Aside0 (L = l ++ [0]) ∧ Buf w' ad cc L ∧ Below W.heap.size W w') := ⟨fun W hbl => input A c l W (Kd.C_below hC hbl) hcap hb hl⟩
  have HLEN : Aside0 (∀ L, L = l ++ [0] → (L.length : Int) = l.length + 1) := ⟨fun L h => by rw [h, List.length_append]; rfl⟩
  have HCC : Aside0 (∀ ad cc L W, L = l ++ [0] → G q W → Buf W ad cc L → Calls Tryd.prog 86 #[.slice (some ad) L.length cc, .int .i64 x, .int .i64 n] W (Told O W)) := ⟨fun ad cc L W h => by subst h; exact hc ad cc W⟩
  have HVA := Aside0.mk hva
  have HG := Aside0.mk hG
  clear hC hb hG hc hva
  go_enter Tryd.func34, Tryd.ntmps34
  go_wp2_with fail
  with_reducible refine (HI.out _ (below_alloc (Below.refl _ _) _)).mono ?_
  rintro e w1 ⟨ad, cc, L, rfl, HL, hB1, hb1⟩
  have hsm := hB1.small
  have HB1 := Aside0.mk hB1
  have HBB := Aside0.mk (below_step (below_alloc (Below.refl _ w) _) hb1)
  have HB10 := Aside0.mk hb1
  clear hB1 hb1
  go_wp2_with fail
  with_reducible refine (ways62 q ad cc L x n O _ (HCC.out ad cc L _ HL.out (HG.out.below HBB.out) HB1.out)).mono ?_
  rintro e w2 ⟨hb2, ⟨d, hd, rfl⟩ | ⟨s, v, hs, ⟨g, rfl, hp⟩, rfl⟩⟩
  · have HBB2 := Aside0.mk (below_step HBB.out hb2)
    have HB20 := Aside0.mk (below_step HB10.out hb2)
    have HRES : Aside0 (toldV O = .tuple #[.int .i64 d, noFault, .bool true]) := ⟨by rw [hd]; rfl⟩
    clear hb2 hd
    go_wp2_with fail
    with_reducible refine (faultNil _).mono ?_
    rintro e w3 ⟨rfl, hb3⟩
    have HB3 : Aside0 (Below w.heap.size w w3) := ⟨below_step HBB2.out hb3⟩
    have hsz := (below_step HB20.out hb3).size
    have hblk := ((below_step HB20.out hb3).block w.heap.size (blk_lt' (blk_new w _))).trans (blk_new w _)
    obtain ⟨c0, c1, c2, c3, c4, c5, k0, k1, k2, k3, k4, k5⟩ := six' hblk
    clear hb3 hblk
    unfold noFault
    go_upto_region 3 with (fail)
    go_region
    go_wp2_with fail
    rw [HRES.out]
    refine bodyPost_ret (v := .tuple #[.int .i64 d, .agg #[.bool false, .int .i64 0, .string ByteArray.empty, .bool false, .bool false, .int .i64 0], .bool true]) (by simp [results, Tryd.results34, go_sem, c0, c1, c2, c3, c4, c5]) rfl ⟨rfl, ?_⟩
    exact (((((((HB3.out.alloc HB3.out.size _).setCell (Nat.le_refl _) _).setCell (Nat.le_refl _) _).setCell (Nat.le_refl _) _).setCell (Nat.le_refl _) _).setCell (Nat.le_refl _) _).setCell (Nat.le_refl _) _).drew
  · have HBB2 := Aside0.mk (below_step HBB.out hb2)
    have HB20 := Aside0.mk (below_step HB10.out hb2)
    have hva := HVA.out s hs
    have HRES : Aside0 (toldV O = .tuple #[.int .i64 0, faultV s, .bool true]) := ⟨by rw [hs]; rfl⟩
    have HP := Aside0.mk hp
    clear hb2 hs hp
    go_wp2_with fail
    with_reducible refine (faultErr g s _ HP.out hva.1 hva.2).mono ?_
    rintro e w3 ⟨rfl, hb3⟩
    have HB3 : Aside0 (Below w.heap.size w w3) := ⟨below_step HBB2.out hb3⟩
    have hsz := (below_step HB20.out hb3).size
    have hblk := ((below_step HB20.out hb3).block w.heap.size (blk_lt' (blk_new w _))).trans (blk_new w _)
    obtain ⟨c0, c1, c2, c3, c4, c5, k0, k1, k2, k3, k4, k5⟩ := six' hblk
    clear hb3 hblk
    unfold faultV
    go_upto_region 3 with (fail)
    go_region
    go_wp2_with fail
    rw [HRES.out]
    refine bodyPost_ret (v := .tuple #[.int .i64 0, .agg #[.bool true, .int .i64 s.off, .string s.msg, .bool s.atEnd, .bool (started s.va), .int .i64 (startAt s.va)], .bool true]) (by simp [results, Tryd.results34, go_sem, c0, c1, c2, c3, c4, c5]) rfl ⟨rfl, ?_⟩
    exact (((((((HB3.out.alloc HB3.out.size _).setCell (Nat.le_refl _) _).setCell (Nat.le_refl _) _).setCell (Nat.le_refl _) _).setCell (Nat.le_refl _) _).setCell (Nat.le_refl _) _).setCell (Nat.le_refl _) _).drew
set_option maxRecDepth 100000 in
set_option maxHeartbeats 8000000 in
theorem told36 (q : ByteArray → ByteArray) (A : Option Addr) (c : Nat) (l : List Int) (x n : Int) (w : World) (hG : G q w) (hC : Kd.C (Kd.int .u8) w A l.length l) (hcap : l.length ≤ c) (hb : ∀ y, y ∈ l → 0 ≤ y ∧ y < 256) (h0 : 0 ≤ x) (h1 : x ≤ l.length) (hl : l.length ≤ 10000) (O : Out) (hva : ∀ s, O = .fault s → 0 ≤ s.va ∧ s.va ≤ 20000)
    (hc : ∀ ad cc W, G q W → Buf W ad cc (l ++ [0]) → Calls Tryd.prog 88 #[.slice (some ad) (l ++ [0]).length cc, .int .i64 x, .int .i64 n, .int .i64 0, .int .u64 0, .int .u8 0] W (Told O W)) :
    Calls Tryd.prog 36 #[.slice A l.length c, .int .i64 x, .int .i64 n] w fun e w' => e = .returned (toldV O) ∧ Below w.heap.size w w' := by
  have HI : Aside0 (∀ W, Below w.heap.size w W → Calls Tryd.prog 51 #[.slice A l.length c] W fun e w' => ∃ ad cc L, e = .returned (.slice (some ad) L.length cc) ∧ Aside0 (L = l ++ [0]) ∧ Buf w' ad cc L ∧ Below W.heap.size W w') := ⟨fun W hbl => input A c l W (Kd.C_below hC hbl) hcap hb hl⟩
  have HLEN : Aside0 (∀ L, L = l ++ [0] → (L.length : Int) = l.length + 1) := ⟨fun L h => by rw [h, List.length_append]; rfl⟩
  have HCC : Aside0 (∀ ad cc L W, L = l ++ [0] → G q W → Buf W ad cc L → Calls Tryd.prog 88 #[.slice (some ad) L.length cc, .int .i64 x, .int .i64 n, .int .i64 0, .int .u64 0, .int .u8 0] W (Told O W)) := ⟨fun ad cc L W h => by subst h; exact hc ad cc W⟩
  have HVA := Aside0.mk hva
  have HG := Aside0.mk hG
  clear hC hb hG hc hva
  go_enter Tryd.func36, Tryd.ntmps36
  go_wp2_with fail
  with_reducible refine (HI.out _ (below_alloc (Below.refl _ _) _)).mono ?_
  rintro e w1 ⟨ad, cc, L, rfl, HL, hB1, hb1⟩
  have hsm := hB1.small
  have HB1 := Aside0.mk hB1
  have HBB := Aside0.mk (below_step (below_alloc (Below.refl _ w) _) hb1)
  have HB10 := Aside0.mk hb1
  clear hB1 hb1
  go_wp2_with fail
  with_reducible refine (ways63 q ad cc L x n O _ (HCC.out ad cc L _ HL.out (HG.out.below HBB.out) HB1.out)).mono ?_
  rintro e w2 ⟨hb2, ⟨d, hd, rfl⟩ | ⟨s, v, hs, ⟨g, rfl, hp⟩, rfl⟩⟩
  · have HBB2 := Aside0.mk (below_step HBB.out hb2)
    have HB20 := Aside0.mk (below_step HB10.out hb2)
    have HRES : Aside0 (toldV O = .tuple #[.int .i64 d, noFault, .bool true]) := ⟨by rw [hd]; rfl⟩
    clear hb2 hd
    go_wp2_with fail
    with_reducible refine (faultNil _).mono ?_
    rintro e w3 ⟨rfl, hb3⟩
    have HB3 : Aside0 (Below w.heap.size w w3) := ⟨below_step HBB2.out hb3⟩
    have hsz := (below_step HB20.out hb3).size
    have hblk := ((below_step HB20.out hb3).block w.heap.size (blk_lt' (blk_new w _))).trans (blk_new w _)
    obtain ⟨c0, c1, c2, c3, c4, c5, k0, k1, k2, k3, k4, k5⟩ := six' hblk
    clear hb3 hblk
    unfold noFault
    go_upto_region 3 with (fail)
    go_region
    go_wp2_with fail
    rw [HRES.out]
    refine bodyPost_ret (v := .tuple #[.int .i64 d, .agg #[.bool false, .int .i64 0, .string ByteArray.empty, .bool false, .bool false, .int .i64 0], .bool true]) (by simp [results, Tryd.results36, go_sem, c0, c1, c2, c3, c4, c5]) rfl ⟨rfl, ?_⟩
    exact (((((((HB3.out.alloc HB3.out.size _).setCell (Nat.le_refl _) _).setCell (Nat.le_refl _) _).setCell (Nat.le_refl _) _).setCell (Nat.le_refl _) _).setCell (Nat.le_refl _) _).setCell (Nat.le_refl _) _).drew
  · have HBB2 := Aside0.mk (below_step HBB.out hb2)
    have HB20 := Aside0.mk (below_step HB10.out hb2)
    have hva := HVA.out s hs
    have HRES : Aside0 (toldV O = .tuple #[.int .i64 0, faultV s, .bool true]) := ⟨by rw [hs]; rfl⟩
    have HP := Aside0.mk hp
    clear hb2 hs hp
    go_wp2_with fail
    with_reducible refine (faultErr g s _ HP.out hva.1 hva.2).mono ?_
    rintro e w3 ⟨rfl, hb3⟩
    have HB3 : Aside0 (Below w.heap.size w w3) := ⟨below_step HBB2.out hb3⟩
    have hsz := (below_step HB20.out hb3).size
    have hblk := ((below_step HB20.out hb3).block w.heap.size (blk_lt' (blk_new w _))).trans (blk_new w _)
    obtain ⟨c0, c1, c2, c3, c4, c5, k0, k1, k2, k3, k4, k5⟩ := six' hblk
    clear hb3 hblk
    unfold faultV
    go_upto_region 3 with (fail)
    go_region
    go_wp2_with fail
    rw [HRES.out]
    refine bodyPost_ret (v := .tuple #[.int .i64 0, .agg #[.bool true, .int .i64 s.off, .string s.msg, .bool s.atEnd, .bool (started s.va), .int .i64 (startAt s.va)], .bool true]) (by simp [results, Tryd.results36, go_sem, c0, c1, c2, c3, c4, c5]) rfl ⟨rfl, ?_⟩
    exact (((((((HB3.out.alloc HB3.out.size _).setCell (Nat.le_refl _) _).setCell (Nat.le_refl _) _).setCell (Nat.le_refl _) _).setCell (Nat.le_refl _) _).setCell (Nat.le_refl _) _).setCell (Nat.le_refl _) _).drew
end Go.Proofs.YtfkagnpdapkaaaaDoor.Err
