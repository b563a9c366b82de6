/- FnNumberPassed: the place behind a number. The package's walk over the number, the thin package, the law. -/
import Derived.Test.YtfkagnpdapkaaaaDoorNumB
import Derived.Test.YtfkagnpdapkaaaaDoorDoor
namespace Go.Proofs.YtfkagnpdapkaaaaDoor.Err
open Go.RowKit Go.Proofs.YtfkagnpdapkaaaaDoorW.PrintWords Go.Proofs.YtfkagnpdapkaaaaDoorW.PrintLast Go.Proofs.YtfkagnpdapkaaaaDoorW.PrintMore
open Go.Proofs.YtfkagnpdapkaaaaDoor.Dig Go.Proofs.YtfkagnpdapkaaaaDoor.Tab Go.Proofs.YtfkagnpdapkaaaaDoor.QF
set_option linter.unusedVariables false
/-- Bytes cut ahead of a place, read. -/
theorem cut_reads (A : Option Addr) (c : Nat) (l : List Int) (i : Int) (w : World) (hC : Kd.C (Kd.int .u8) w A l.length l) (hcap : l.length ≤ c) (h0 : 0 ≤ i) (h1 : i ≤ l.length) :
    ∃ A6, (∀ W, Sem.run Tryd.prog (Instr.slice 22 (.slice A l.length c) (some (.int .i64 i)) none none) W = .ok (.slice A6 (l.length - i.toNat) (c - i.toNat)) W) ∧ Kd.C (Kd.int .u8) w A6 (l.drop i.toNat).length (l.drop i.toNat) ∧ (l.drop i.toNat).length ≤ c - i.toNat := by
  obtain ⟨i06, hi06, _, hsz6, _⟩ := info_parts info5
  obtain ⟨A6, hcut6, hA6, hC6⟩ := print_drop_of (P := Tryd.prog) (Value.int .u8) 0 22 5 .i64 Tryd.underlying22 hi06 hsz6 A c l i h0 h1 hcap
  exact ⟨A6, fun W => by rw [hcut6 W, List.length_drop], Kd.C_of_reads (h1 := fun _ => rfl) (hA6 _ (Kd.reads_of_C hC)), hC6⟩
theorem bcells {W w1 : World} (hb : Below W.heap.size W w1) : (∀ b o, b < W.heap.size → w1.cell? ⟨b, o, none⟩ = W.cell? ⟨b, o, none⟩) ∧ (∀ b o, b < W.heap.size → w1.frozen? ⟨b, o, none⟩ = W.frozen? ⟨b, o, none⟩) :=
  ⟨fun b o h => hb.cell (p := ⟨b, o, none⟩) h, fun b o h => hb.frozen (p := ⟨b, o, none⟩) h⟩
/-- A block of six cells, read behind an allocation. -/
theorem six {w : World} {b : Nat} {v0 v1 v2 v3 v4 v5 : Value} {t : TypeId} (h : w.heap[b]? = some (.cells #[v0, v1, v2, v3, v4, v5] t (0, 0))) :
    (∀ X : Obj, (w.alloc X).cell? ⟨b, 0, none⟩ = some v0) ∧ (∀ X : Obj, (w.alloc X).cell? ⟨b, 1, none⟩ = some v1) ∧ (∀ X : Obj, (w.alloc X).cell? ⟨b, 2, none⟩ = some v2) ∧ (∀ X : Obj, (w.alloc X).cell? ⟨b, 3, none⟩ = some v3) ∧ (∀ X : Obj, (w.alloc X).cell? ⟨b, 4, none⟩ = some v4) ∧ (∀ X : Obj, (w.alloc X).cell? ⟨b, 5, none⟩ = some v5) ∧
    (∀ X : Obj, (w.alloc X).frozen? ⟨b, 0, none⟩ = false) ∧ (∀ X : Obj, (w.alloc X).frozen? ⟨b, 1, none⟩ = false) ∧ (∀ X : Obj, (w.alloc X).frozen? ⟨b, 2, none⟩ = false) ∧ (∀ X : Obj, (w.alloc X).frozen? ⟨b, 3, none⟩ = false) ∧ (∀ X : Obj, (w.alloc X).frozen? ⟨b, 4, none⟩ = false) ∧ (∀ X : Obj, (w.alloc X).frozen? ⟨b, 5, none⟩ = false) := by
  have h2 : ∀ X : Obj, (w.alloc X).heap[b]? = some (.cells #[v0, v1, v2, v3, v4, v5] t (0, 0)) := fun X => (Below.heap_alloc w X b (blk_lt' h)).trans h
  refine ⟨fun X => ?_, fun X => ?_, fun X => ?_, fun X => ?_, fun X => ?_, fun X => ?_, fun X => ?_, fun X => ?_, fun X => ?_, fun X => ?_, fun X => ?_, fun X => ?_⟩
  all_goals simp [World.cell?, World.frozen?, h2 X]
/-- What may end a number, for the package. -/
def isEnder (c : Int) : Prop := c = 0 ∨ c = 32 ∨ c = 9 ∨ c = 13 ∨ c = 10 ∨ c = 44 ∨ c = 58 ∨ c = 125 ∨ c = 93
theorem ender_f {c : Int} (h : isEnder c) : gojson_validEndNumberChar.f c = some true := by
  rcases h with rfl | rfl | rfl | rfl | rfl | rfl | rfl | rfl | rfl <;> rfl
set_option maxRecDepth 100000 in
set_option maxHeartbeats 4000000 in
theorem numberEnd_ok (ad : Addr) (c : Nat) (L : List Int) (i : Int) (n : Nat) (w : World) (hGL : Glob w) (hB : Buf w ad c L) (h0 : 0 ≤ i) (h1 : i < L.length) (hl : L.length ≤ 1001) (hs : scanNum (L.drop i.toNat) = (n, 0)) (hn : i + n < L.length) (he : isEnder (rd L (i + n))) :
    Calls Tryd.prog 93 #[.slice (some ad) L.length c, .int .i64 i] w fun e w' => e = .returned (.tuple #[.int .i64 (i + n), .nilIface]) ∧ Drawn0 w w' := by
  obtain ⟨A6, hcut, hC6, hcap6⟩ := cut_reads (some ad) c L i w hB.C hB.cap h0 (by omega)
  have hx := hB.at_ (i + n) (by omega) hn
  have hbs : Bytes (L.drop i.toNat) := fun x hx => by
    have := hB.bytes x (List.mem_of_mem_drop hx)
    omega
  have hf : gojsonnum_Scan.f 2000 (L.drop i.toNat) = some ((n : Int), 0) := by
    rw [pack_scan _ hbs (by rw [List.length_drop]; omega) 2000 (by omega), hs]
    rfl
  have HCALL : Aside0 (∀ W, Below w.heap.size w W → Calls Tryd.prog 137 #[.slice A6 (L.length - i.toNat) (c - i.toNat)] W fun e w' => e = .returned (.tuple #[.int .i64 n, .int .u8 0]) ∧ Drawn0 W w') := ⟨fun W hb => by
    rw [← List.length_drop]
    exact gojsonnum_Scan.calls 2000 A6 _ (L.drop i.toNat) n 0 W (Kd.C_below hC6 hb) hcap6 (hGL.below hb) hf⟩
  have HE : Aside0 (∀ W, Calls Tryd.prog 139 #[.int .u8 (rd L (i + n))] W fun e w' => e = .returned (.bool true) ∧ Drawn0 W w') := ⟨fun W => gojson_validEndNumberChar.calls _ true W (ender_f he)⟩
  have hsm := hB.small
  clear hB hGL hC6 hs hf hbs he
  go_enter Tryd.func93, Tryd.ntmps93
  go_wp2_with fail
  with_reducible refine (HCALL.out _ (Below.refl _ _)).mono ?_
  rintro e w1 ⟨rfl, ⟨m1, rfl⟩⟩
  go_wp2_with fail
  with_reducible refine (HE.out _).mono ?_
  rintro e w1 ⟨rfl, ⟨m2, rfl⟩⟩
  go_wp2_with fail
  go_ret2
  exact ⟨rfl, by repeat (first | exact Drawn0.refl _ | apply Drawn0.step)⟩
set_option maxRecDepth 100000 in
set_option maxHeartbeats 4000000 in
theorem numberPassed_impl (A : Option Addr) (c : Nat) (l : List Int) (i : Int) (n : Nat) (w : World) (hGL : Glob w) (hC : Kd.C (Kd.int .u8) w A l.length l) (hcap : l.length ≤ c) (hb : ∀ x, x ∈ l → 0 ≤ x ∧ x < 256) (hl : l.length ≤ 1000) (h0 : 0 ≤ i) (h1 : i ≤ l.length) (hs : scanNum (l.drop i.toNat) = (n, 0)) (he : i + n < l.length → isEnder (rd l (i + n))) :
    Calls Tryd.prog 48 #[.slice A l.length c, .int .i64 i] w fun e w' => e = .returned (.tuple #[.int .i64 (i + n), noFault, .bool true]) ∧ Below w.heap.size w w' := by
  have hle : i + n ≤ l.length := by
    have := scan_le2 (l.drop i.toNat)
    rw [hs, List.length_drop] at this
    omega
  have HI : Aside0 (∀ W, Below w.heap.size w W → Calls Tryd.prog 51 #[.slice A l.length c] W fun e w' => ∃ ad cc L, e = .returned (.slice (some ad) L.length cc) ∧ Aside0 (L = l ++ [0]) ∧ Buf w' ad cc L ∧ Below W.heap.size W w') := ⟨fun W hbl => input A c l W (Kd.C_below hC hbl) hcap hb (by omega)⟩
  have HCALL : Aside0 (∀ (ad : Addr) (cc : Nat) (L : List Int) (W : World), L = l ++ [0] → Below w.heap.size w W → Buf W ad cc L → Calls Tryd.prog 70 #[.slice (some ad) L.length cc, .int .i64 i] W fun e w' => e = .returned (.tuple #[.int .i64 (i + n), .nilIface]) ∧ Drawn0 W w') := ⟨fun ad cc L W hL hbl hB => by
    have hlen : L.length = l.length + 1 := by rw [hL, List.length_append]; rfl
    have hd : L.drop i.toNat = l.drop i.toNat ++ [0] := by rw [hL, List.drop_append_of_le_length (by omega)]
    have hen : isEnder (rd L (i + n)) := by
      by_cases h : i + n < l.length
      · have h2 := he h
        have e2 : rd L (i + n) = rd l (i + n) := by
          obtain ⟨m, hm⟩ := Int.eq_ofNat_of_zero_le (show 0 ≤ i + n by omega)
          rw [hm, hL]
          exact rd_app l [0] m (by omega)
        rw [e2]
        exact h2
      · have e2 : i + (n : Int) = (l.length : Int) := by omega
        rw [e2, hL, rd_zero]
        exact .inl rfl
    have HN := Aside0.mk (numberEnd_ok ad cc L i n W (hGL.below hbl) hB h0 (by omega) (by omega) (by rw [hd, scan_app, hs]) (by omega) hen)
    clear hen hd hB hlen hL
    go_enter Tryd.func70, Tryd.ntmps70
    go_wp2_with fail
    with_reducible refine HN.out.mono ?_
    rintro e w1 ⟨rfl, ⟨m1, rfl⟩⟩
    go_wp2_with fail
    go_ret2
    exact ⟨rfl, by repeat (first | exact Drawn0.refl _ | apply Drawn0.step)⟩⟩
  clear hC hb hs he hGL
  go_enter Tryd.func48, Tryd.ntmps48
  go_wp2_with fail
  with_reducible refine (HI.out _ (below_alloc (Below.refl _ _) _)).mono ?_
  rintro e w1 ⟨ad, cc, L, rfl, HL, hB1, hb1⟩
  have HB1 := Aside0.mk hB1
  have HBB := Aside0.mk (below_step (below_alloc (Below.refl _ w) _) hb1)
  have HB2 := Aside0.mk hb1
  clear hB1 hb1
  go_wp2_with fail
  with_reducible refine (HCALL.out ad cc L _ HL.out HBB.out HB1.out).mono ?_
  rintro e w2 ⟨rfl, ⟨m2, rfl⟩⟩
  go_wp2_with fail
  with_reducible refine (faultNil _).mono ?_
  rintro e w3 ⟨rfl, hb3⟩
  have HB3 := Aside0.mk (below_step (pw_below_drewN HBB.out m2) hb3)
  have hsz := (below_step (pw_below_drewN HB2.out m2) hb3).size
  have hblk := ((below_step (pw_below_drewN HB2.out m2) hb3).block w.heap.size (blk_lt' (blk_new w _))).trans (blk_new w _)
  obtain ⟨c0, c1, c2, c3, c4, c5, k0, k1, k2, k3, k4, k5⟩ := six hblk
  have HBLK := Aside0.mk hblk
  clear hb3 HB2 hblk
  unfold noFault
  go_upto_region 3 with (fail)
  go_region
  go_wp2_with fail
  refine bodyPost_ret (v := .tuple #[.int .i64 (i + n), .agg #[.bool false, .int .i64 0, .string ByteArray.empty, .bool false, .bool false, .int .i64 0], .bool true]) (by simp [results, Tryd.results48, go_sem, c0, c1, c2, c3, c4, c5]) rfl ⟨rfl, ?_⟩
  exact (((((((HB3.out.alloc HB3.out.size _).setCell (Nat.le_refl _) _).setCell (Nat.le_refl _) _).setCell (Nat.le_refl _) _).setCell (Nat.le_refl _) _).setCell (Nat.le_refl _) _).setCell (Nat.le_refl _) _).drew
theorem wf_i64 {a : Int} (h : (Lit.int .i64 a).wf = true) : -9223372036854775808 ≤ a ∧ a ≤ 9223372036854775807 := by
  have h2 : (decide (IntKind.i64.min ≤ a) && decide (a ≤ IntKind.i64.max)) = true := h
  rw [Bool.and_eq_true] at h2
  exact ⟨of_decide_eq_true h2.1, of_decide_eq_true h2.2⟩
theorem ends_f {c : Int} (b : Bool) (h : laws_ends8.f c = some b) : b = true → isEnder c := by
  unfold laws_ends8.f at h
  intro hb
  subst hb
  unfold isEnder
  repeat' split at h
  all_goals first | omega | (simp at h; omega)
theorem ends_some (c : Int) : ∃ b, laws_ends8.f c = some b := by
  unfold laws_ends8.f
  repeat' (first | exact ⟨_, rfl⟩ | split)
set_option maxRecDepth 100000 in
set_option maxHeartbeats 8000000 in
theorem numberPassed_law (A : Option Addr) (c : Nat) (l : List Int) (i : Int) (w : World) (hGL : Glob w) (hC : Kd.C (Kd.int .u8) w A l.length l) (hcap : l.length ≤ c) (hb : ∀ x, x ∈ l → 0 ≤ x ∧ x < 256) (hm : l.length ≤ maxLen) (hi0 : -9223372036854775808 ≤ i) (hi1 : i ≤ 9223372036854775807) :
    Calls Tryd.prog 18 #[.slice A l.length c, .int .i64 i] w fun e w' => e = .returned (.bool true) ∧ Below w.heap.size w w' := by
  unfold maxLen at hm
  have HGL := Aside0.mk hGL
  have HC := Aside0.mk hC
  have HBY := Aside0.mk hb
  clear hGL hC hb
  by_cases z1 : l.length ≤ 1000
  rotate_left
  · go_enter Tryd.func18, Tryd.ntmps18
    go_wp2_with fail
    all_goals
      go_ret
      exact ⟨rfl, by repeat (first | exact Below.refl _ _ | apply pw_below_drewN)⟩
  by_cases z2 : 0 ≤ i
  rotate_left
  · go_enter Tryd.func18, Tryd.ntmps18
    go_wp2_with fail
    all_goals
      go_ret
      exact ⟨rfl, by repeat (first | exact Below.refl _ _ | apply pw_below_drewN)⟩
  by_cases z3 : i ≤ l.length
  rotate_left
  · go_enter Tryd.func18, Tryd.ntmps18
    go_wp2_with fail
    all_goals
      go_ret
      exact ⟨rfl, by repeat (first | exact Below.refl _ _ | apply pw_below_drewN)⟩
  obtain ⟨A6, hcut, hC6, hcap6⟩ := cut_reads A c l i w HC.out hcap z2 z3
  obtain ⟨n, p, hnp⟩ : ∃ n p, scanNum (l.drop i.toNat) = (n, p) := ⟨_, _, rfl⟩
  have hle : n ≤ l.length - i.toNat := by
    have := scan_le2 (l.drop i.toNat)
    rw [hnp, List.length_drop] at this
    exact this
  have hp3 : p ≤ 3 := by
    have := kind_le (l.drop i.toNat)
    rw [hnp] at this
    exact this
  have HCALL : Aside0 (∀ W, Below w.heap.size w W → Calls Tryd.prog 46 #[.slice A6 (l.length - i.toNat) (c - i.toNat)] W fun e w' => e = .returned (.tuple #[.int .i64 n, .int .i64 p]) ∧ Drawn0 W w') := ⟨fun W hbl => by
    have hf : spec_ScanNumber8.f 2000 (l.drop i.toNat) = some ((n : Int), (p : Int)) := by
      rw [spec_scan _ (by rw [List.length_drop]; omega) 2000 (by omega), hnp]
      rfl
    rw [← List.length_drop]
    exact spec_ScanNumber8.calls 2000 A6 _ (l.drop i.toNat) n p W (Kd.C_below hC6 hbl) hcap6 hf⟩
  have HNP := Aside0.mk hnp
  clear hC6 hnp
  by_cases z4 : p = 0
  rotate_left
  · have f1 : ((p : Int) == 0) = false := beq_eq_false_iff_ne.mpr (by omega)
    have f2 : ((p : Int) != 0) = true := bne_iff_ne.mpr (by omega)
    clear z4
    go_enter Tryd.func18, Tryd.ntmps18
    go_wp2_with fail
    with_reducible refine (HCALL.out _ (Below.refl _ _)).mono ?_
    rintro e w1 ⟨rfl, ⟨m1, rfl⟩⟩
    go_wp2_with fail
    go_ret
    exact ⟨rfl, by repeat (first | exact Below.refl _ _ | apply pw_below_drewN)⟩
  subst z4
  have HEND : Aside0 (∀ W, Below w.heap.size w W → (i + n < l.length → isEnder (rd l (i + n))) → Calls Tryd.prog 48 #[.slice A l.length c, .int .i64 i] W fun e w' => e = .returned (.tuple #[.int .i64 (i + n), noFault, .bool true]) ∧ Below W.heap.size W w') := ⟨fun W hbl h => numberPassed_impl A c l i n W (HGL.out.below hbl) (Kd.C_below HC.out hbl) hcap HBY.out z1 z2 z3 HNP.out h⟩
  by_cases z5 : i + n < l.length
  rotate_left
  · have HCND : Aside0 (i + n < l.length → isEnder (rd l (i + n))) := ⟨fun h => absurd h z5⟩
    go_enter Tryd.func18, Tryd.ntmps18
    go_wp2_with fail
    with_reducible refine (HCALL.out _ (Below.refl _ _)).mono ?_
    rintro e w1 ⟨rfl, ⟨m1, rfl⟩⟩
    go_wp2_with fail
    with_reducible refine (HEND.out _ (by repeat (first | exact Below.refl _ _ | apply pw_below_drewN)) HCND.out).mono ?_
    rintro e w3 ⟨rfl, hb3⟩
    have HB3 : Aside0 (Below w.heap.size w w3) := ⟨below_step (by repeat (first | exact Below.refl _ _ | apply pw_below_drewN)) hb3⟩
    clear hb3
    unfold noFault
    go_wp2_with fail
    go_ret
    exact ⟨rfl, below_alloc HB3.out _⟩
  obtain ⟨b, hb⟩ := ends_some (rd l (i + n))
  have HE : Aside0 (∀ W, Calls Tryd.prog 47 #[.int .u8 (rd l (i + n))] W fun e w' => e = .returned (.bool b) ∧ Drawn0 W w') := ⟨fun W => laws_ends8.calls _ b W hb⟩
  have HCE := Aside0.mk (ends_f b hb)
  obtain ⟨ad, rfl, hx⟩ := Kd.at_int HC.out (i + n) (by omega) z5
  clear hb
  cases b with
  | false =>
    go_enter Tryd.func18, Tryd.ntmps18
    go_wp2_with fail
    with_reducible refine (HCALL.out _ (Below.refl _ _)).mono ?_
    rintro e w1 ⟨rfl, ⟨m1, rfl⟩⟩
    go_wp2_with fail
    with_reducible refine (HE.out _).mono ?_
    rintro e w1 ⟨rfl, ⟨m2, rfl⟩⟩
    go_wp2_with fail
    go_ret
    exact ⟨rfl, by repeat (first | exact Below.refl _ _ | apply pw_below_drewN)⟩
  | true =>
    have HCND : Aside0 (i + n < l.length → isEnder (rd l (i + n))) := ⟨fun _ => HCE.out rfl⟩
    go_enter Tryd.func18, Tryd.ntmps18
    go_wp2_with fail
    with_reducible refine (HCALL.out _ (Below.refl _ _)).mono ?_
    rintro e w1 ⟨rfl, ⟨m1, rfl⟩⟩
    go_wp2_with fail
    with_reducible refine (HE.out _).mono ?_
    rintro e w1 ⟨rfl, ⟨m2, rfl⟩⟩
    go_wp2_with fail
    with_reducible refine (HEND.out _ (by repeat (first | exact Below.refl _ _ | apply pw_below_drewN)) HCND.out).mono ?_
    rintro e w3 ⟨rfl, hb3⟩
    have HB3 : Aside0 (Below w.heap.size w w3) := ⟨below_step (by repeat (first | exact Below.refl _ _ | apply pw_below_drewN)) hb3⟩
    clear hb3
    unfold noFault
    go_wp2_with fail
    go_ret
    exact ⟨rfl, below_alloc HB3.out _⟩
theorem numberPassed_walk (a0 : Option Addr) (len0 cap0 : Nat) (z0 : List Int) (a1 : Int) (w : World) (w0 : (a0 = none ∧ len0 = 0 ∧ cap0 = 0 ∧ z0 = []) ∨ ∃ x, a0 = some x ∧ len0 ≤ cap0 ∧ cap0 ≤ maxLen ∧ z0.length = cap0 ∧ (∀ i, i < z0.length → w.cell? (x.add i) = some (.int .u8 (z0.getD i 0))) ∧ ∀ n ∈ z0, (Lit.int .u8 n).wf = true) (y0 : len0 * 1 ≤ 140737488351232) (w1 : (Lit.int .i64 a1).wf = true) (hG : Glob w) :
    Calls Tryd.prog 18 #[.slice a0 len0 cap0, .int .i64 a1] w fun e w' => e = .returned (.bool true) ∧ Below w.heap.size w w' := by
  obtain ⟨l0, rfl, hr0, hm0, hw0, hc0⟩ := ReadsInt.ofRowC w0
  have h1 := wf_i64 w1
  exact numberPassed_law _ _ l0 a1 w hG (Kd.C_of_reads (d := (0 : Int)) (h1 := fun _ => rfl) hr0) hc0 (fun x hx => by have := bytes_of l0 hw0 x hx; omega) hm0 h1.1 h1.2
end Go.Proofs.YtfkagnpdapkaaaaDoor.Err
