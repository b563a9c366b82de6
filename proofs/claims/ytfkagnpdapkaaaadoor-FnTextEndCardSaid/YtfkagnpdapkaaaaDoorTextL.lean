/- FnTextEnd: a text ends where the reference says, or has a fault. -/
import Derived.Test.YtfkagnpdapkaaaaDoorValueB
namespace Go.Proofs.YtfkagnpdapkaaaaDoor.Err
open Go.RowKit Go.Proofs.YtfkagnpdapkaaaaDoorW.PrintWords Go.Proofs.YtfkagnpdapkaaaaDoorW.PrintLast Go.Proofs.YtfkagnpdapkaaaaDoorW.PrintMore
open Go.Proofs.YtfkagnpdapkaaaaDoor.Dig Go.Proofs.YtfkagnpdapkaaaaDoor.Tab Go.Proofs.YtfkagnpdapkaaaaDoor.QF Go.Proofs.YtfkagnpdapkaaaaDoor.QL
set_option linter.unusedVariables false
section
variable {q : ByteArray → ByteArray}
set_option maxRecDepth 100000 in
theorem errorStartAny (g : Nat) (va : Int) (w : World) (h3 : w.cell? ⟨g, 3, none⟩ = some (.int .i64 va)) : Calls Tryd.prog 73 #[.iface 86 (.pointer (some ⟨g, 0, none⟩))] w fun e w' => (∃ sa sb, e = .returned (.tuple #[.int .i64 sa, .bool sb])) ∧ w = w' := by
  have hta := ta g
  by_cases hz : va = 0
  · subst hz
    go_enter Tryd.func73, Tryd.ntmps73
    go_wp2
    go_ret2
    exact ⟨⟨_, _, rfl⟩, rfl⟩
  · have f1 : (va == 0) = false := beq_eq_false_iff_ne.mpr hz
    clear hz
    go_enter Tryd.func73, Tryd.ntmps73
    go_wp2
    go_ret2
    exact ⟨⟨_, _, rfl⟩, rfl⟩
set_option maxRecDepth 100000 in
set_option maxHeartbeats 4000000 in
theorem faultAny (g : Nat) (s : SE) (w : World) (h : PT w g s) : Calls Tryd.prog 49 #[.iface 86 (.pointer (some ⟨g, 0, none⟩))] w fun e w' => (∃ sa sb, e = .returned (.tuple #[.agg #[.bool true, .int .i64 s.off, .string s.msg, .bool s.atEnd, .bool sb, .int .i64 sa], .bool true])) ∧ Below w.heap.size w w' := by
  have hlt := blk_lt' h
  obtain ⟨h0, h1, h2, h3⟩ := pt_cells h
  have H := Aside0.mk h
  have hta := ta g
  clear h
  go_enter Tryd.func49, Tryd.ntmps49
  go_upto_region 6 with (fail)
  go_region_held3 (fun w' => w'.cell? ⟨g, 0, none⟩ = some (.string s.msg) ∧ w'.cell? ⟨g, 1, none⟩ = some (.int .i64 s.off) ∧ w'.cell? ⟨g, 2, none⟩ = some (.bool s.atEnd) ∧ w'.cell? ⟨g, 3, none⟩ = some (.int .i64 s.va)) (go_keep) (first | (go_at_call 71; refine (errorText g s.msg _ ?_).mono ?_; (simp [*]); rintro e w' ⟨rfl, rfl⟩) | (go_at_call 72; refine (errorAtEnd g s.atEnd _ ?_).mono ?_; (simp [*]); rintro e w' ⟨rfl, rfl⟩))
  all_goals
    rename_i hS
    obtain ⟨k0, k1, k2, k3⟩ := hS
    have K3 := Aside0.mk k3
    clear k0 k1 k2 k3
    go_wp2_with fail
    with_reducible refine (errorStartAny g s.va _ K3.out).mono ?_
    rintro e w' ⟨⟨sa, sb, rfl⟩, rfl⟩
    go_wp2_with fail
    refine bodyPost_ret (v := .tuple #[.agg #[.bool true, .int .i64 s.off, .string s.msg, .bool s.atEnd, .bool sb, .int .i64 sa], .bool true]) (by simp [results, Tryd.results49, go_sem]) rfl ?_
    exact ⟨⟨sa, sb, rfl⟩, (below_alloc (below_alloc (Below.refl _ _) _) _).drew⟩
set_option maxRecDepth 100000 in
theorem door57 (ad : Addr) (c : Nat) (L : List Int) (x : Int) (w : World) (hG : G q w) (hB : Buf w ad c L) (h0 : 0 ≤ x) (h1 : x < L.length) (h34 : rd L x = 34) :
    Calls Tryd.prog 57 #[.slice (some ad) L.length c, .int .i64 x] w (StrAns q L x w) := by
  have HC := Aside0.mk (skipString q ad c L x w hG hB h0 h1 h34)
  clear hG hB
  go_enter Tryd.func57, Tryd.ntmps57
  go_wp2_with fail
  with_reducible refine HC.out.mono ?_
  rintro e w4 ⟨hb, ⟨d, hd, h2, h3, rfl⟩ | ⟨s, v, hs, ⟨s', g, rfl, hp⟩, rfl⟩⟩
  · have HB4 := Aside0.mk hb
    have HD := Aside0.mk (And.intro hd (And.intro h2 h3))
    clear hb hd h2 h3
    go_wp2_with fail
    go_ret2
    exact ⟨HB4.out, .inl ⟨d, HD.out.1, HD.out.2.1, HD.out.2.2, rfl⟩⟩
  · have HB4 := Aside0.mk hb
    have HS := Aside0.mk hs
    have HP := Aside0.mk hp
    clear hb hs hp
    go_wp2_with fail
    go_ret2
    exact ⟨HB4.out, .inr ⟨s, _, HS.out, ⟨s', g, rfl, HP.out⟩, rfl⟩⟩
/-- What is told of a text. -/
def TextSaid (O : Out) (e : Ending) : Prop := (∃ d, O = .done d ∧ e = .returned (.tuple #[.int .i64 d, noFault, .bool true])) ∨ ∃ s off msg ae sa sb, O = .fault s ∧ e = .returned (.tuple #[.int .i64 0, .agg #[.bool true, .int .i64 off, .string msg, .bool ae, .bool sb, .int .i64 sa], .bool true])
theorem ends_done {L : List Int} {x d : Int} (hT : Txt L) (h0 : 0 ≤ x) (h1 : x < L.length) (hq : rd L x = 34) (h : Ends q L .text (x + 1) d) : out q L .val [] x = .done d := by
  rw [(val_text (q := q) (st := []) hT h0 h1 hq).1, h]
  exact if_pos rfl
theorem bad_fault {L : List Int} {x : Int} {s : SE} (hT : Txt L) (h0 : 0 ≤ x) (h1 : x < L.length) (hq : rd L x = 34) (h : Bad q L .text (x + 1) s) : out q L .val [] x = .fault s := by
  rw [(val_text (q := q) (st := []) hT h0 h1 hq).1, h]
set_option maxRecDepth 100000 in
set_option maxHeartbeats 8000000 in
theorem impl27 (A : Option Addr) (c : Nat) (l : List Int) (x : Int) (w : World) (hG : G q w) (hC : Kd.C (Kd.int .u8) w A l.length l) (hcap : l.length ≤ c) (hb : ∀ y, y ∈ l → 0 ≤ y ∧ y < 256) (hl : l.length ≤ 10000) (h0 : 0 ≤ x) (h1 : x < l.length) (hq : rd l x = 34) :
    Calls Tryd.prog 27 #[.slice A l.length c, .int .i64 x] w fun e w' => TextSaid (out q (l ++ [0]) .val [] x) e ∧ Below w.heap.size w w' := by
  have HI : Aside0 (∀ W, Below w.heap.size w W → Calls Tryd.prog 51 #[.slice A l.length c] W fun e w' => ∃ ad cc L, e = .returned (.slice (some ad) L.length cc) ∧ Aside0 (L = l ++ [0]) ∧ Buf w' ad cc L ∧ Below W.heap.size W w') := ⟨fun W hbl => input A c l W (Kd.C_below hC hbl) hcap hb hl⟩
  have HLEN : Aside0 (∀ L, L = l ++ [0] → (L.length : Int) = l.length + 1 ∧ rd L x = 34) := ⟨fun L h => ⟨by rw [h, List.length_append]; rfl, by obtain ⟨n, rfl⟩ := Int.eq_ofNat_of_zero_le h0; rw [h, rd_app l [0] n (by omega)]; exact hq⟩⟩
  have HG := Aside0.mk hG
  clear hC hb hG
  go_enter Tryd.func27, Tryd.ntmps27
  go_wp2_with fail
  with_reducible refine (HI.out _ (below_alloc (Below.refl _ _) _)).mono ?_
  rintro e w1 ⟨ad, cc, L, rfl, HL, hB1, hb1⟩
  have HT := Aside0.mk hB1.txt
  have HLL := Aside0.mk (HLEN.out L HL.out)
  have HST := Aside0.mk (door57 (q := q) ad cc L x w1 (HG.out.below (below_step (below_alloc (Below.refl _ w) _) hb1)) hB1 h0 (by have := HLL.out.1; omega) HLL.out.2)
  have HBB := Aside0.mk (below_step (below_alloc (Below.refl _ w) _) hb1)
  have HB10 := Aside0.mk hb1
  clear hB1 hb1
  go_wp2_with fail
  with_reducible refine HST.out.mono ?_
  rintro e w2 ⟨hb2, ⟨d, hd, _, _, rfl⟩ | ⟨s, v, hs, ⟨s', g, rfl, hp⟩, rfl⟩⟩
  · have HBB2 := Aside0.mk (below_step HBB.out hb2)
    have HB20 := Aside0.mk (below_step HB10.out hb2)
    have HRES : Aside0 (out q (l ++ [0]) .val [] x = .done d) := ⟨by rw [← HL.out]; exact ends_done HT.out h0 (by have := HLL.out.1; omega) HLL.out.2 hd⟩
    clear hb2 hd
    go_wp2_with fail
    with_reducible refine (faultNil _).mono ?_
    rintro e w3 ⟨rfl, hb3⟩
    have HB3 : Aside0 (Below w.heap.size w w3) := ⟨below_step HBB2.out hb3⟩
    have hsz := (below_step HB20.out hb3).size
    have hblk := ((below_step HB20.out hb3).block w.heap.size (blk_lt' (blk_new w _))).trans (blk_new w _)
    obtain ⟨c0, c1, c2, c3, c4, c5, k0, k1, k2, k3, k4, k5⟩ := six' hblk
    clear hb3 hblk
    unfold noFault
    go_upto_region 3 with (fail)
    go_region
    go_wp2_with fail
    refine bodyPost_ret (v := .tuple #[.int .i64 d, .agg #[.bool false, .int .i64 0, .string ByteArray.empty, .bool false, .bool false, .int .i64 0], .bool true]) ?_ rfl ?_
    · simp [results, Tryd.results27, go_sem, c0, c1, c2, c3, c4, c5]; try rfl
    refine ⟨.inl ⟨d, HRES.out, rfl⟩, ?_⟩
    exact (((((((HB3.out.alloc HB3.out.size _).setCell (Nat.le_refl _) _).setCell (Nat.le_refl _) _).setCell (Nat.le_refl _) _).setCell (Nat.le_refl _) _).setCell (Nat.le_refl _) _).setCell (Nat.le_refl _) _).drew
  · have HBB2 := Aside0.mk (below_step HBB.out hb2)
    have HB20 := Aside0.mk (below_step HB10.out hb2)
    have HRES : Aside0 (out q (l ++ [0]) .val [] x = .fault s) := ⟨by rw [← HL.out]; exact bad_fault HT.out h0 (by have := HLL.out.1; omega) HLL.out.2 hs⟩
    have HP := Aside0.mk hp
    clear hb2 hs hp
    go_wp2_with fail
    with_reducible refine (faultAny g s' _ HP.out).mono ?_
    rintro e w3 ⟨⟨sa, sb, rfl⟩, hb3⟩
    have HB3 : Aside0 (Below w.heap.size w w3) := ⟨below_step HBB2.out hb3⟩
    have hsz := (below_step HB20.out hb3).size
    have hblk := ((below_step HB20.out hb3).block w.heap.size (blk_lt' (blk_new w _))).trans (blk_new w _)
    obtain ⟨c0, c1, c2, c3, c4, c5, k0, k1, k2, k3, k4, k5⟩ := six' hblk
    clear hb3 hblk
    go_upto_region 3 with (fail)
    go_region
    go_wp2_with fail
    refine bodyPost_ret (v := .tuple #[.int .i64 0, .agg #[.bool true, .int .i64 s'.off, .string s'.msg, .bool s'.atEnd, .bool sb, .int .i64 sa], .bool true]) ?_ rfl ?_
    · simp [results, Tryd.results27, go_sem, c0, c1, c2, c3, c4, c5]; try rfl
    refine ⟨.inr ⟨s, _, _, _, sa, sb, HRES.out, rfl⟩, ?_⟩
    exact (((((((HB3.out.alloc HB3.out.size _).setCell (Nat.le_refl _) _).setCell (Nat.le_refl _) _).setCell (Nat.le_refl _) _).setCell (Nat.le_refl _) _).setCell (Nat.le_refl _) _).setCell (Nat.le_refl _) _).drew
set_option maxRecDepth 100000 in
set_option maxHeartbeats 8000000 in
theorem textLaw (A : Option Addr) (c : Nat) (l : List Int) (i : Int) (w : World) (hG : G q w) (hC : Kd.C (Kd.int .u8) w A l.length l) (hcap : l.length ≤ c) (hb : ∀ y, y ∈ l → 0 ≤ y ∧ y < 256) (hm : l.length ≤ maxLen) (hi : -9223372036854775808 ≤ i ∧ i ≤ 9223372036854775807) :
    Calls Tryd.prog 6 #[.slice A l.length c, .int .i64 i] w fun e w' => e = .returned (.bool true) ∧ Below w.heap.size w w' := by
  unfold maxLen at hm
  have HF : Aside0 (∀ W, Below w.heap.size w W → Calls Tryd.prog 24 #[.slice A l.length c, .int .i64 i] W fun e w' => e = .returned (.bool (decide (l.length ≤ 10000 ∧ 0 ≤ i ∧ i ≤ l.length))) ∧ Drawn0 W w') := ⟨fun W hW => fitsB A c l i W (Kd.C_below hC hW) hcap⟩
  have HC := Aside0.mk hC
  have HBY := Aside0.mk hb
  have HG := Aside0.mk hG
  clear hC hb hG
  by_cases z1 : (l.length : Int) > 2147483647
  · go_enter Tryd.func6, Tryd.ntmps6
    go_wp2_with fail
    all_goals
      go_ret
      exact ⟨rfl, Below.refl _ _⟩
  by_cases z2 : l.length ≤ 10000 ∧ 0 ≤ i ∧ i ≤ l.length
  rotate_left
  · have HF2 : Aside0 (∀ W, Below w.heap.size w W → Calls Tryd.prog 24 #[.slice A l.length c, .int .i64 i] W fun e w' => e = .returned (.bool false) ∧ Drawn0 W w') := ⟨fun W hW => by have := HF.out W hW; rw [decide_eq_false z2] at this; exact this⟩
    clear z2
    go_enter Tryd.func6, Tryd.ntmps6
    go_wp2_with fail
    with_reducible refine (HF2.out _ (Below.refl _ _)).mono ?_
    rintro e w1 ⟨rfl, ⟨m1, rfl⟩⟩
    go_wp2_with fail
    go_ret
    exact ⟨rfl, pw_below_drewN (Below.refl _ _) _⟩
  have HF2 : Aside0 (∀ W, Below w.heap.size w W → Calls Tryd.prog 24 #[.slice A l.length c, .int .i64 i] W fun e w' => e = .returned (.bool true) ∧ Drawn0 W w') := ⟨fun W hW => by have := HF.out W hW; rw [decide_eq_true z2] at this; exact this⟩
  obtain ⟨z3, z4, z5⟩ := z2
  by_cases z6 : i = l.length
  · have e6 : (i == (l.length : Int)) = true := by rw [z6]; simp
    clear z6
    go_enter Tryd.func6, Tryd.ntmps6
    go_wp2_with fail
    with_reducible refine (HF2.out _ (Below.refl _ _)).mono ?_
    rintro e w1 ⟨rfl, ⟨m1, rfl⟩⟩
    go_wp2_with fail
    go_ret
    exact ⟨rfl, pw_below_drewN (Below.refl _ _) _⟩
  have e6 : (i == (l.length : Int)) = false := beq_eq_false_iff_ne.mpr z6
  have z7 : i < (l.length : Int) := by omega
  obtain ⟨ad, rfl, hx⟩ := Kd.at_int HC.out i z4 z7
  by_cases z8 : rd l i = 34
  rotate_left
  · have e8 : (rd l i != 34) = true := bne_iff_ne.mpr z8
    clear z8 z6
    go_enter Tryd.func6, Tryd.ntmps6
    go_wp2_with fail
    with_reducible refine (HF2.out _ (Below.refl _ _)).mono ?_
    rintro e w1 ⟨rfl, ⟨m1, rfl⟩⟩
    go_wp2_with fail
    go_ret
    exact ⟨rfl, pw_below_drewN (Below.refl _ _) _⟩
  have Z8 := Aside0.mk z8
  rw [z8] at hx
  have HV : Aside0 (∀ W, Below w.heap.size w W → Calls Tryd.prog 27 #[.slice (some ad) l.length c, .int .i64 i] W fun e w' => TextSaid (out q (l ++ [0]) .val [] i) e ∧ Below W.heap.size W w') := ⟨fun W hW => impl27 _ c l i W (HG.out.below hW) (Kd.C_below HC.out hW) hcap HBY.out z3 z4 z7 Z8.out⟩
  have HS : Aside0 (∀ W, Below w.heap.size w W → Calls Tryd.prog 28 #[.slice (some ad) l.length c, .int .i64 i] W fun e w' => e = .returned (teV (out q (l ++ [0]) .val [] i)) ∧ Below W.heap.size W w') := ⟨fun W hW => textEnd _ c l i W (HG.out.below hW) (Kd.C_below HC.out hW) hcap HBY.out z3 z4 z7 Z8.out⟩
  clear z8 z6
  go_enter Tryd.func6, Tryd.ntmps6
  go_wp2_with fail
  with_reducible refine (HF2.out _ (Below.refl _ _)).mono ?_
  rintro e w1 ⟨rfl, ⟨m1, rfl⟩⟩
  go_wp2_with fail
  with_reducible refine (HV.out _ (pw_below_drewN (Below.refl _ _) _)).mono ?_
  rintro e w2 ⟨⟨d, ho, rfl⟩ | ⟨s, off, msg, ae, sa, sb, ho, rfl⟩, hb2⟩
  · have HS2 : Aside0 (∀ W, Below w.heap.size w W → Calls Tryd.prog 28 #[.slice (some ad) l.length c, .int .i64 i] W fun e w' => e = .returned (.tuple #[.int .i64 d, .bool true]) ∧ Below W.heap.size W w') := ⟨fun W hW => by have := HS.out W hW; rw [ho] at this; exact this⟩
    have HB2 := Aside0.mk (belowD hb2)
    clear ho hb2
    unfold noFault
    go_wp2_with fail
    with_reducible refine (HS2.out _ (below_alloc HB2.out _)).mono ?_
    rintro e w3 ⟨rfl, hb3⟩
    obtain ⟨c0, _⟩ := six ((hb3.block w2.heap.size (blk_lt' (blk_new w2 _))).trans (blk_new w2 _))
    have HB3 := Aside0.mk (below_step (below_alloc HB2.out _) hb3)
    clear hb3
    go_wp2_with fail
    go_ret
    exact ⟨rfl, HB3.out⟩
  · have HS2 : Aside0 (∀ W, Below w.heap.size w W → Calls Tryd.prog 28 #[.slice (some ad) l.length c, .int .i64 i] W fun e w' => e = .returned (.tuple #[.int .i64 0, .bool false]) ∧ Below W.heap.size W w') := ⟨fun W hW => by have := HS.out W hW; rw [ho] at this; exact this⟩
    have HB2 := Aside0.mk (belowD hb2)
    clear ho hb2
    go_wp2_with fail
    with_reducible refine (HS2.out _ (below_alloc HB2.out _)).mono ?_
    rintro e w3 ⟨rfl, hb3⟩
    obtain ⟨c0, _⟩ := six ((hb3.block w2.heap.size (blk_lt' (blk_new w2 _))).trans (blk_new w2 _))
    have HB3 := Aside0.mk (below_step (below_alloc HB2.out _) hb3)
    clear hb3
    go_wp2_with fail
    go_ret
    exact ⟨rfl, HB3.out⟩
end
theorem text_walk (a0 : Option Addr) (len0 cap0 : Nat) (z0 : List Int) (a1 : Int) (w : World) (w0 : (a0 = none ∧ len0 = 0 ∧ cap0 = 0 ∧ z0 = []) ∨ ∃ x, a0 = some x ∧ len0 ≤ cap0 ∧ cap0 ≤ maxLen ∧ z0.length = cap0 ∧ (∀ i, i < z0.length → w.cell? (x.add i) = some (.int .u8 (z0.getD i 0))) ∧ ∀ n ∈ z0, (Lit.int .u8 n).wf = true) (y0 : len0 * 1 ≤ 140737488351232) (w1 : (Lit.int .i64 a1).wf = true) (hG : G Laid.goQ w) :
    Calls Tryd.prog 6 #[.slice a0 len0 cap0, .int .i64 a1] w fun e w' => e = .returned (.bool true) ∧ Below w.heap.size w w' := by
  obtain ⟨l0, rfl, hr0, hm0, hw0, hc0⟩ := ReadsInt.ofRowC w0
  exact textLaw _ _ l0 a1 w hG (Kd.C_of_reads (d := (0 : Int)) (h1 := fun _ => rfl) hr0) hc0 (fun x hx => by have := bytes_of l0 hw0 x hx; omega) hm0 (wfI64 w1)
end Go.Proofs.YtfkagnpdapkaaaaDoor.Err
