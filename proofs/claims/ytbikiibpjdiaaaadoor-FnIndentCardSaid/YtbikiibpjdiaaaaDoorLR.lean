/- One run: "[ 1 ]" is made compact (the laws' own look whether anything is made compact at all). -/
import Derived.Test.YtbikiibpjdiaaaaDoorFF
import Derived.Test.YtbikiibpjdiaaaaDoorQK1
import Derived.Lib.SmallJoins
namespace Go.Proofs.YtbikiibpjdiaaaaDoor.Err
open Go.RowKit Go.Proofs.YtbikiibpjdiaaaaDoorW.PrintWords Go.Proofs.YtbikiibpjdiaaaaDoorW.PrintLast Go.Proofs.YtbikiibpjdiaaaaDoorW.PrintMore
open Go.Proofs.YtbikiibpjdiaaaaDoor.Dig Go.Proofs.YtbikiibpjdiaaaaDoor.Tab Go.Proofs.YtbikiibpjdiaaaaDoor.QF Go.Proofs.YtbikiibpjdiaaaaDoor.QM Go.Proofs.YtbikiibpjdiaaaaDoor.QK
set_option linter.unusedVariables false
section
variable {w w' : World}
theorem add0 (a : Addr) : a.add 0 = a := by
 obtain ⟨b, o, f⟩ := a
 unfold Addr.add
 cases f <;> rfl
theorem add1 (a : Addr) : a.add 1 = { block := a.block, off := a.off + 1 } := rfl
theorem fr_row {b : Nat} {cs : Array Value} {t : TypeId} (h : w.heap[b]? = some (.cells cs t (0, 0))) (j : Nat) : w.frozen? ⟨b, j, none⟩ = false := by simp [World.frozen?, h]
/-- The bytes of "[ 1 ]". -/
def five5 : List Int := [91, 32, 49, 32, 93]
set_option maxRecDepth 100000 in
set_option maxHeartbeats 16000000 in
theorem notCompact (A : Option Addr) (c : Nat) (h : Kd.C (Kd.int .u8) w A five5.length five5) : Calls Tryd.prog 42 #[.slice A 5 c, .bool true] w fun e w' => e = .returned (.bool false) ∧ Below w.heap.size w w' := by
 obtain ⟨ad, rfl, h0⟩ := Kd.at_int h 0 (by decide) (by decide)
 obtain ⟨ad1, e1, h1⟩ := Kd.at_int h 1 (by decide) (by decide)
 cases e1
 have r0 : rd five5 0 = 91 := rfl
 have r1 : rd five5 1 = 32 := rfl
 rw [r0] at h0
 rw [r1] at h1
 have t0 : (0 : Int).toNat = 0 := rfl
 have t1 : (1 : Int).toNat = 1 := rfl
 rw [t0] at h0
 rw [t1] at h1
 clear h r0 r1 t0 t1
 go_enter Tryd.func42, Tryd.ntmps42
 go_wp2_with fail
 go_loopg [6, 8] 3 (fun kq v6 v8 w' => (v6 = .int .i64 0 ∧ v8 = .int .i64 0 ∧ Aside0 (3 ≤ kq ∧ w'.cell? ⟨w.heap.size, 0, none⟩ = some (.int .u8 0) ∧ w'.frozen? ⟨w.heap.size, 0, none⟩ = false) ∨ v6 = .int .i64 1 ∧ v8 = .int .i64 1 ∧ Aside0 (2 ≤ kq)) ∧ Aside0 (Below w.heap.size w w'))
 case atStart => exact ⟨.inl ⟨rfl, rfl, ⟨Nat.le_refl _, (cell_of_row _ _ 0 _ _ _ (blk_new w _)).trans rfl, fr_row (blk_new w _) 0⟩⟩, ⟨below_alloc (Below.refl _ _) _⟩⟩
 case round =>
  obtain ⟨⟨rfl, rfl, HA⟩ | ⟨rfl, rfl, HA⟩, HB⟩ := hrel
  ·obtain ⟨a1, a2, a3⟩ := HA.out
   obtain _ | g0 := gk
   ·exfalso; omega
   have hx0 := pw_cell_below HB.out h0
   have hx1 := pw_cell_below HB.out h1
   have hx0b : wr.cell? ad = some (.int .u8 91) := by rw [add0] at hx0; exact hx0
   have hx1s := pw_cell_below (HB.out.setCell (Nat.le_refl _) (.int .u8 93) : Below w.heap.size w (wr.setCell ⟨w.heap.size, 0, none⟩ (.int .u8 93))) h1
   rw [add1] at hx1s
   go_wp2_with fail
   go_roundg g0
   case measure => omega
   case rel => exact ⟨.inr ⟨rfl, rfl, ⟨by omega⟩⟩, ⟨HB.out.setCell (Nat.le_refl _) _⟩⟩
  ·have a1 := HA.out
   obtain _ | g0 := gk
   ·exfalso; omega
   have hx1 := pw_cell_below HB.out h1
   rw [add1] at hx1
   go_wp2_with fail
   go_ret
   exact ⟨rfl, HB.out⟩
theorem looked5 (A : Option Addr) (c : Nat) (h : Kd.C (Kd.int .u8) w A five5.length five5) (hc : 5 ≤ c) : Calls Tryd.prog 63 #[.int .i64 0, .slice A 5 c] w fun e w' => e = .returned (.bool false) ∧ Drawn0 w w' :=
 gojsonformat_lookedAtByCompact.calls 10 0 A c five5 false w h hc (by decide +kernel)
set_option maxRecDepth 100000 in
set_option maxHeartbeats 16000000 in
theorem output5 (v : Value) (A : Option Addr) (c : Nat) (h : Kd.C (Kd.int .u8) w A five5.length five5) (hc : 5 ≤ c) : Calls Tryd.prog 47 #[v, .slice A 5 c, .bool false, .bool false] w fun e w' => e = .returned (.tuple #[v, .bool false]) ∧ Below w.heap.size w w' := by
 have HL := Aside0.mk (looked5 A c h hc)
 have HN : Aside0 (∀ m, Calls Tryd.prog 42 #[.slice A 5 c, .bool true] (w.drewN m) fun e w' => e = .returned (.bool false) ∧ Below w.heap.size w w') := ⟨fun m => (notCompact A c (Kd.C_below h (pw_below_drewN (Below.refl _ _) m))).mono fun e w' h2 => ⟨h2.1, below_step (pw_below_drewN (Below.refl _ _) m) h2.2⟩⟩
 clear h
 go_enter Tryd.func47, Tryd.ntmps47
 go_wp2_with fail
 with_reducible refine HL.out.mono ?_
 rintro e w1 ⟨rfl, ⟨m1, rfl⟩⟩
 go_wp2_with fail
 with_reducible refine (HN.out m1).mono ?_
 rintro e w2 ⟨rfl, hb2⟩
 have HB := Aside0.mk hb2
 clear hb2
 go_wp2_with fail
 go_ret2
 exact ⟨rfl, HB.out⟩
/-- What is written of the five bytes. -/
theorem fj5 : (fj (five5 ++ [0]) false none).map (·.2) = some [91, 49, 93] := by decide +kernel
variable {N : Nat} {v : Value} {xs l : List Int} {A A0 A1 : Option Addr} {c c0 c1 : Nat} {esc : Bool} {r : Option (List Int)}
set_option maxRecDepth 100000 in
set_option maxHeartbeats 16000000 in
theorem appendCompact5 (h : Dr N w v xs A c five5) : Calls Tryd.prog 38 #[v, .slice A five5.length c, .bool false] w (DoorAns N w v xs (some [91, 49, 93])) := by
 have HO := Aside0.mk (output5 v A c h.src h.cap)
 have HA : Aside0 (∀ W, Below w.heap.size w W → Calls Tryd.prog 48 #[v, .slice A 5 c, .bool false] W (DoorAns N W v xs (some [91, 49, 93]))) := ⟨fun W hb => by have := appendCompacted (esc := false) (h.below hb); rw [fj5] at this; exact this⟩
 have HD := Aside0.mk h
 clear h
 show Calls Tryd.prog 38 #[v, .slice A 5 c, .bool false] w _
 go_enter Tryd.func38, Tryd.ntmps38
 go_wp2_with fail
 with_reducible refine HO.out.mono ?_
 rintro e w1 ⟨rfl, hb1⟩
 have HB1 := Aside0.mk hb1
 clear hb1
 go_wp2_with fail
 with_reducible refine (HA.out _ HB1.out).mono ?_
 rintro e w2 ⟨v2, rfl, ho2, hg2⟩
 have HO2 := Aside0.mk ho2
 have HG2 := Aside0.mk ((Grew.below HB1.out).trans hg2)
 clear ho2 hg2
 go_wp2_with fail
 refine bodyPost_ret (v := .tuple #[v2, .nilIface]) ?_ rfl ?_
 ·simp [results, Tryd.results38, go_sem]
 exact ⟨v2, rfl, HO2.out, HG2.out⟩
set_option maxRecDepth 100000 in
set_option maxHeartbeats 16000000 in
theorem compactDoor (h : Calls Tryd.prog 38 #[v, .slice A l.length c, .bool esc] w (DoorAns N w v xs r)) : Calls Tryd.prog 25 #[v, .slice A l.length c, .bool esc] w (DoorAns N w v xs r) := by
 have HA := Aside0.mk h
 clear h
 go_enter Tryd.func25, Tryd.ntmps25
 go_wp2_with fail
 with_reducible refine HA.out.mono ?_
 rintro e w1 hans
 obtain ⟨v1, y, rfl, h2⟩ := doorBack hans
 have H2 := Aside0.mk h2
 clear h2 hans
 go_wp2_with fail
 refine bodyPost_ret (v := .tuple #[v1, y]) ?_ rfl ?_
 ·simp [results, Tryd.results25, go_sem]
 exact H2.out
set_option maxRecDepth 100000 in
set_option maxHeartbeats 16000000 in
theorem implCompact (h : Ins w A0 c0 xs A1 c1 l) (hdoor : ∀ N W v A c, Dr N W v xs A c l → Calls Tryd.prog 38 #[v, .slice A l.length c, .bool esc] W (DoorAns N W v xs r)) : Calls Tryd.prog 11 #[.slice A0 xs.length c0, .slice A1 l.length c1, .bool esc] w (ImplAns w xs r) := by
 have HI := Aside0.mk h
 have HDO := Aside0.mk hdoor
 have HCP := Aside0.mk (ownCopy h.s0 h.k0 h.n0)
 clear h hdoor
 go_enter Tryd.func11, Tryd.ntmps11
 go_wp2_with fail
 with_reducible refine HCP.out.mono ?_
 rintro e w1 ⟨⟨v1, rfl, ho1⟩, hb1⟩
 have HO1 := Aside0.mk ho1
 have HB1 := Aside0.mk hb1
 clear ho1 hb1
 have HCP2 := Aside0.mk (ownCopy (Kd.C_below HI.out.s1 HB1.out) HI.out.k1 HI.out.n1)
 go_wp2_with fail
 with_reducible refine HCP2.out.mono ?_
 rintro e w2 ⟨⟨v2, rfl, ho2⟩, hb2⟩
 obtain ⟨A, c, rfl, hc2, hs2⟩ := own_slice ho2
 have HD := Aside0.mk (dr_of HI.out HO1.out HB1.out hb2 hs2 hc2)
 have HB2 := Aside0.mk hb2
 have HA := Aside0.mk (compactDoor (HDO.out _ _ _ _ _ HD.out))
 clear ho2 hb2 hs2 hc2
 go_wp2_with fail
 with_reducible refine HA.out.mono ?_
 rintro e w3 hans
 rcases r with _ | T
 ·obtain ⟨v3, u3, g, rfl, hg⟩ := hans
  have HBB := Aside0.mk (out_below (HO1.out.move HB2.out) (below_step HB1.out HB2.out) hg)
  clear hg
  go_wp2_with fail
  go_region
  go_wp2_with fail
  refine bodyPost_ret (v := .tuple #[v3, .bool false]) ?_ rfl ?_
  ·simp [results, Tryd.results11, go_sem]
  exact ⟨v3, rfl, HBB.out.drew⟩
 ·obtain ⟨v3, rfl, ho3, hg⟩ := hans
  have HBB := Aside0.mk (out_below (HO1.out.move HB2.out) (below_step HB1.out HB2.out) hg)
  obtain ⟨A3, c3, rfl, hc3, hs3⟩ := own_slice ho3
  have HS3 := Aside0.mk hs3
  have HC3 := Aside0.mk hc3
  clear hg ho3 hs3 hc3
  go_wp2_with fail
  go_region
  go_wp2_with fail
  refine bodyPost_ret (v := .tuple #[.slice A3 (xs ++ T).length c3, .bool true]) ?_ rfl ?_
  ·simp [results, Tryd.results11, go_sem]
  exact ⟨A3, c3, rfl, HC3.out, Kd.C_below HS3.out (Below.refl _ _).drew, HBB.out.drew⟩
theorem nil_C (w : World) : Kd.C (Kd.int .u8) w none ([] : List Int).length [] := Kd.C_of_reads (enc := Value.int .u8) (d := (0 : Int)) (h1 := fun _ => rfl) ⟨rfl, by simp, fun h => by simp at h⟩
theorem nums_C {b : Nat} {vs : Array Value} {ys : List Int} (h : w.heap[b]? = some (.cells vs 5 (0, 0))) (hv : vs.toList = nums .u8 ys) (hl : ys.length ≤ 1000000) : Kd.C (Kd.int .u8) w (some ⟨b, 0, none⟩) ys.length ys := by
 refine Kd.C_of_reads (enc := Value.int .u8) (d := (0 : Int)) (h1 := fun _ => rfl) ⟨rfl, by omega, fun _ => ⟨_, rfl, fun j hj => ?_⟩⟩
 have hn := World.news_of_block h j (.int .u8 (ys.getD j 0)) (by rw [hv]; unfold nums; rw [List.getElem?_map, List.getElem?_eq_getElem hj, List.getD_eq_getElem?_getD, List.getElem?_eq_getElem hj]; rfl)
 exact hn
theorem const_C {vs : Array Value} {ys : List Int} {fr : Nat × Nat} (hv : vs.toList = nums .u8 ys) (hl : ys.length ≤ 1000000) : Kd.C (Kd.int .u8) (w.alloc (.cells vs 5 fr)) (some ⟨w.heap.size, 0, none⟩) ys.length ys := by
 refine Kd.C_of_reads (enc := Value.int .u8) (d := (0 : Int)) (h1 := fun _ => rfl) ⟨rfl, by omega, fun _ => ⟨_, rfl, fun j hj => ?_⟩⟩
 exact World.news_of_block (blk_new w (.cells vs 5 fr)) j (.int .u8 (ys.getD j 0)) (by rw [hv]; unfold nums; rw [List.getElem?_map, List.getElem?_eq_getElem hj, List.getD_eq_getElem?_getD, List.getElem?_eq_getElem hj]; rfl)
set_option maxRecDepth 100000 in
set_option maxHeartbeats 16000000 in
theorem compacts (w : World) (hG : Glob w) : Calls Tryd.prog 13 #[] w fun e w' => e = .returned (.bool true) ∧ Below w.heap.size w w' := by
 have hcv : ∀ W : World, Sem.run Tryd.prog (convert 22 22 (.slice (some ⟨W.heap.size, 0, none⟩) 5 5)) (W.alloc (.cells #[.int .u8 91, .int .u8 32, .int .u8 49, .int .u8 32, .int .u8 93] 5)) = .ok (.slice (some ⟨W.heap.size, 0, none⟩) 5 5) (W.alloc (.cells #[.int .u8 91, .int .u8 32, .int .u8 49, .int .u8 32, .int .u8 93] 5 (5, 6))) := fun W => _root_.Go.Joins.run_convert_bytes_const_at (P := Tryd.prog) W 22 5 #[.int .u8 91, .int .u8 32, .int .u8 49, .int .u8 32, .int .u8 93] 5 5 W.heap.size rfl Tryd.underlying22 Tryd.underlying5
 have hcv3 : ∀ W : World, Sem.run Tryd.prog (convert 22 22 (.slice (some ⟨W.heap.size, 0, none⟩) 3 3)) (W.alloc (.cells #[.int .u8 91, .int .u8 49, .int .u8 93] 5)) = .ok (.slice (some ⟨W.heap.size, 0, none⟩) 3 3) (W.alloc (.cells #[.int .u8 91, .int .u8 49, .int .u8 93] 5 (3, 4))) := fun W => _root_.Go.Joins.run_convert_bytes_const_at (P := Tryd.prog) W 22 5 #[.int .u8 91, .int .u8 49, .int .u8 93] 3 3 W.heap.size rfl Tryd.underlying22 Tryd.underlying5
 have HI : Aside0 (Calls Tryd.prog 11 #[.slice none 0 0, .slice (some ⟨w.heap.size, 0, none⟩) 5 5, .bool false] (w.alloc (.cells #[.int .u8 91, .int .u8 32, .int .u8 49, .int .u8 32, .int .u8 93] 5 (5, 6))) (ImplAns (w.alloc (.cells #[.int .u8 91, .int .u8 32, .int .u8 49, .int .u8 32, .int .u8 93] 5 (5, 6))) [] (some [91, 49, 93]))) :=
  ⟨implCompact (xs := []) (l := five5) ⟨nil_C _, Nat.le_refl _, by decide, const_C rfl (by decide), by decide, by decide, by decide, hG.below (below_alloc (Below.refl _ _) _)⟩ fun N W v A c h => appendCompact5 h⟩
 have HS : Aside0 (∀ W A k, 3 ≤ k → Kd.C (Kd.int .u8) W A 3 [91, 49, 93] → Calls Tryd.prog 16 #[.slice A 3 k, .slice (some ⟨W.heap.size, 0, none⟩) 3 3] (W.alloc (.cells #[.int .u8 91, .int .u8 49, .int .u8 93] 5 (3, 4))) fun e w' => e = .returned (.bool true) ∧ Drawn0 (W.alloc (.cells #[.int .u8 91, .int .u8 49, .int .u8 93] 5 (3, 4))) w') :=
  ⟨fun W A k hk h => spec_Same.calls A k [91, 49, 93] (some ⟨W.heap.size, 0, none⟩) 3 [91, 49, 93] true _ (Kd.C_below h (below_alloc (Below.refl _ _) _)) hk (const_C rfl (by decide)) (Nat.le_refl _) (by decide +kernel)⟩
 clear hG
 go_enter Tryd.func13, Tryd.ntmps13
 go_wp2_with fail
 with_reducible refine HI.out.mono ?_
 rintro e w1 ⟨A, k, rfl, hk, hC, hb⟩
 have HB := Aside0.mk (below_step (below_alloc (Below.refl _ w) _) hb)
 have HC : Aside0 (3 ≤ k ∧ Kd.C (Kd.int .u8) w1 A 3 [91, 49, 93]) := ⟨hk, hC⟩
 clear hb hC hk
 go_wp2_with fail
 with_reducible refine (HS.out w1 A k HC.out.1 HC.out.2).mono ?_
 rintro e w2 ⟨rfl, hd2⟩
 have HB2 := Aside0.mk (below_step (below_alloc HB.out _) hd2.below)
 clear hd2
 go_wp2_with fail
 go_ret
 exact ⟨rfl, HB2.out⟩
end
end Go.Proofs.YtbikiibpjdiaaaaDoor.Err
/- The laws' small functions: few, Behind. -/
namespace Go.Proofs.YtbikiibpjdiaaaaDoor.Err
open Go.RowKit Go.Proofs.YtbikiibpjdiaaaaDoorW.PrintWords Go.Proofs.YtbikiibpjdiaaaaDoorW.PrintLast Go.Proofs.YtbikiibpjdiaaaaDoorW.PrintMore
open Go.Proofs.YtbikiibpjdiaaaaDoor.Dig Go.Proofs.YtbikiibpjdiaaaaDoor.Tab Go.Proofs.YtbikiibpjdiaaaaDoor.QF Go.Proofs.YtbikiibpjdiaaaaDoor.QM
set_option linter.unusedVariables false
section
variable {w w' : World} {A0 A1 A3 B : Option Addr} {n0 n1 c0 c1 c3 k g : Nat} {xs T : List Int}
set_option maxRecDepth 100000 in
set_option maxHeartbeats 16000000 in
theorem few2 (hb : w.heap[g]? = some (.cells #[.slice A0 n0 c0, .slice A1 n1 c1] 22 (0, 0))) (h0 : n0 ≤ 2147483647) (h1 : n1 ≤ 2147483647) : Calls Tryd.prog 10 #[.slice (some ⟨g, 0, none⟩) 2 2] w fun e w' => e = .returned (.bool (decide (n0 + n1 ≤ 10000))) ∧ Drawn0 w w' := by
 have x0 : w.cell? ⟨g, 0, none⟩ = some (.slice A0 n0 c0) := by rw [cell_of_row w g 0 _ _ _ hb]; rfl
 have x1 : w.cell? ⟨g, 1, none⟩ = some (.slice A1 n1 c1) := by rw [cell_of_row w g 1 _ _ _ hb]; rfl
 have e0 : wrap64 (0 + (n0 : Int)) = (n0 : Int) := by unfold wrap64; omega
 have e1 : wrap64 ((n0 : Int) + (n1 : Int)) = ((n0 + n1 : Nat) : Int) := by unfold wrap64; omega
 obtain ⟨S, hS⟩ : ∃ S : Int, S = ((n0 + n1 : Nat) : Int) := ⟨_, rfl⟩
 rw [← hS] at e1
 have hD : decide (S ≤ 10000) = decide (n0 + n1 ≤ 10000) := by rw [decide_eq_decide]; omega
 have HSS := Aside0.mk hS
 clear hb hS
 go_enter Tryd.func10, Tryd.ntmps10
 go_wp2_with fail
 go_loopg [3, 8] 4 (fun kq v3 v8 w' => ((v3 = .int .i64 0 ∧ v8 = .int .i64 0 ∧ Aside0 (4 ≤ kq)) ∨ (v3 = .int .i64 (n0 : Int) ∧ v8 = .int .i64 1 ∧ Aside0 (3 ≤ kq)) ∨ (v3 = .int .i64 S ∧ v8 = .int .i64 2 ∧ Aside0 (2 ≤ kq))) ∧ Drawn0 w w')
 case atStart => exact ⟨.inl ⟨rfl, rfl, ⟨Nat.le_refl _⟩⟩, Drawn0.refl _⟩
 case round =>
  obtain ⟨⟨rfl, rfl, HA⟩ | ⟨rfl, rfl, HA⟩ | ⟨rfl, rfl, HA⟩, ⟨m1, rfl⟩⟩ := hrel
  ·have a1 := HA.out
   obtain _ | g0 := gk
   ·exfalso; omega
   go_wp2_with fail
   go_roundg g0
   case measure => omega
   case rel => exact ⟨.inr (.inl ⟨by first | rfl | rw [e0] | simp [e0], rfl, ⟨by omega⟩⟩), ⟨m1, rfl⟩⟩
  ·have a1 := HA.out
   obtain _ | g0 := gk
   ·exfalso; omega
   go_wp2_with fail
   go_roundg g0
   case measure => omega
   case rel => exact ⟨.inr (.inr ⟨by first | rfl | rw [e1] | (congr 1; have := HSS.out; omega), rfl, ⟨by omega⟩⟩), ⟨m1, rfl⟩⟩
  ·have a1 := HA.out
   obtain _ | g0 := gk
   ·exfalso; omega
   go_wp2_with fail
   go_ret
   exact ⟨by first | rw [hD] | rfl, ⟨m1, rfl⟩⟩
set_option maxRecDepth 100000 in
set_option maxHeartbeats 16000000 in
theorem behind (hG : Kd.C (Kd.int .u8) w A3 (xs ++ T).length (xs ++ T)) (hg : (xs ++ T).length ≤ c3) (h0 : Kd.C (Kd.int .u8) w A0 xs.length xs) (hc0 : xs.length ≤ c0) (h1 : Kd.C (Kd.int .u8) w B T.length T) (hk : T.length ≤ k) (hT : 0 < T.length) (hs : (xs ++ T).length ≤ 10000000000000) :
  Calls Tryd.prog 14 #[.slice A3 (xs ++ T).length c3, .slice A0 xs.length c0, .slice B T.length k] w fun e w' => e = .returned (.bool true) ∧ Drawn0 w w' := by
 have hR := Kd.reads_of_C (enc := Value.int .u8) (d := (0 : Int)) (h1 := fun _ => rfl) hG
 have hl : (xs ++ T).length = xs.length + T.length := List.length_append
 obtain ⟨ad, rfl, _⟩ := hR.2.2 (by omega)
 have hR1 := hR.take_ xs.length (by omega)
 have hR2 := hR.drop_ (c := c3) xs.length (by omega) hg
 rw [if_neg (by omega), List.drop_left, show (xs ++ T).length - xs.length = T.length by omega] at hR2
 rw [List.take_left] at hR1
 have S1 : Aside0 (Calls Tryd.prog 16 #[.slice (some ad) xs.length c3, .slice A0 xs.length c0] w fun e w' => e = .returned (.bool true) ∧ Drawn0 w w') := ⟨spec_Same.calls (some ad) c3 xs A0 c0 xs true w (Kd.C_of_reads (h1 := fun _ => rfl) hR1) (by omega) h0 hc0 (by unfold spec_Same.f; simp)⟩
 have S2 : Aside0 (∀ m, Calls Tryd.prog 16 #[.slice (some (ad.add xs.length)) T.length (c3 - xs.length), .slice B T.length k] (w.drewN m) fun e w' => e = .returned (.bool true) ∧ Drawn0 (w.drewN m) w') := ⟨fun m => spec_Same.calls (some (ad.add xs.length)) (c3 - xs.length) T B k T true (w.drewN m) (Kd.C_below (Kd.C_of_reads (h1 := fun _ => rfl) hR2) (pw_below_drewN (Below.refl _ _) m)) (by omega) (Kd.C_below h1 (pw_below_drewN (Below.refl _ _) m)) hk (by unfold spec_Same.f; simp)⟩
 rw [hl]
 obtain ⟨p, hp⟩ : ∃ p, p = xs.length := ⟨_, rfl⟩
 obtain ⟨r, hr⟩ : ∃ r, r = T.length := ⟨_, rfl⟩
 have e1 : wrap64 ((p : Int) + (r : Int)) = (p : Int) + (r : Int) := by unfold wrap64; omega
 have e2 : p + r - p = r := by omega
 have g1 : p < c3 := by omega
 have g2 : p + r ≤ c3 := by omega
 rw [← hp] at S1 S2 ⊢
 rw [← hr] at S2 ⊢
 clear hG hR hR1 hR2 h0 h1 hl hp hr
 go_enter Tryd.func14, Tryd.ntmps14
 go_wp2_with fail
 with_reducible refine S1.out.mono ?_
 rintro e w1 ⟨rfl, ⟨m1, rfl⟩⟩
 go_wp2_with fail
 with_reducible refine (S2.out m1).mono ?_
 rintro e w2 ⟨rfl, ⟨m2, rfl⟩⟩
 go_wp2_with fail
 go_ret
 exact ⟨rfl, by repeat (first | exact ⟨_, rfl⟩ | exact Drawn0.refl _ | apply Drawn0.step)⟩
end
end Go.Proofs.YtbikiibpjdiaaaaDoor.Err
