/- FnCompactOutput: bytes are taken only where they are one value of which nothing is left out; then they stand behind those that were there, and otherwise nothing is put there. -/
import Derived.Test.YtbikiibpjdiaaaaDoorFL
import Derived.Test.YtbikiibpjdiaaaaDoorFG
namespace Go.Proofs.YtbikiibpjdiaaaaDoor.Err
open Go.RowKit Go.Proofs.YtbikiibpjdiaaaaDoorW.PrintWords Go.Proofs.YtbikiibpjdiaaaaDoorW.PrintLast Go.Proofs.YtbikiibpjdiaaaaDoorW.PrintMore
open Go.Proofs.YtbikiibpjdiaaaaDoor.Dig Go.Proofs.YtbikiibpjdiaaaaDoor.Tab Go.Proofs.YtbikiibpjdiaaaaDoor.QF Go.Proofs.YtbikiibpjdiaaaaDoor.QM
set_option linter.unusedVariables false
section
variable {q : ByteArray → ByteArray} {w : World} {A0 A1 : Option Addr} {c0 c1 : Nat} {xs l : List Int} {esc : Bool}
set_option maxRecDepth 100000 in
set_option maxHeartbeats 16000000 in
theorem outputLaw (h : LawIn q w A0 c0 xs A1 c1 l) : Calls Tryd.prog 6 #[.slice A0 xs.length c0, .slice A1 l.length c1, .bool esc] w fun e w' => e = .returned (.bool true) ∧ Below w.heap.size w w' := by
 have hm0 := h.m0
 have hm1 := h.m1
 unfold maxLen at hm0 hm1
 have HH := Aside0.mk h
 clear h
 by_cases z0 : (xs.length : Int) > 2147483647
 ·have b0 : decide ((2147483647 : Int) < (xs.length : Int)) = true := decide_eq_true z0
  go_enter Tryd.func6, Tryd.ntmps6
  go_wp2_with fail
  go_ret
  exact ⟨rfl, Below.refl _ _⟩
 have b0 : decide ((2147483647 : Int) < (xs.length : Int)) = false := decide_eq_false z0
 by_cases z1 : (l.length : Int) > 2147483647
 ·have b1 : decide ((2147483647 : Int) < (l.length : Int)) = true := decide_eq_true z1
  go_enter Tryd.func6, Tryd.ntmps6
  go_wp2_with fail
  go_ret
  exact ⟨rfl, Below.refl _ _⟩
 have b1 : decide ((2147483647 : Int) < (l.length : Int)) = false := decide_eq_false z1
 have HFEW : Aside0 (Calls Tryd.prog 10 #[.slice (some ⟨w.heap.size, 0, none⟩) 2 2] (w.alloc (.cells #[.slice A0 xs.length c0, .slice A1 l.length c1] 22)) fun e w' => e = .returned (.bool (decide (xs.length + l.length ≤ 10000))) ∧ Drawn0 (w.alloc (.cells #[.slice A0 xs.length c0, .slice A1 l.length c1] 22)) w') := ⟨few2 (blk_new w _) (by omega) (by omega)⟩
 have HB0 : Aside0 (Below w.heap.size w (w.alloc (.cells #[.slice A0 xs.length c0, .slice A1 l.length c1] 22))) := ⟨below_alloc (Below.refl _ _) _⟩
 by_cases z2 : xs.length + l.length ≤ 10000
 case neg =>
  rw [decide_eq_false z2] at HFEW
  clear hm0 hm1 z0 z1 z2
  go_enter Tryd.func6, Tryd.ntmps6
  go_wp2_with fail
  with_reducible refine HFEW.out.mono ?_
  rintro e w1 ⟨rfl, hd⟩
  have HB := Aside0.mk (below_step HB0.out hd.below)
  clear hd
  go_wp2_with fail
  go_ret
  exact ⟨rfl, HB.out⟩
 rw [decide_eq_true z2] at HFEW
 have HINS : Aside0 (∀ W, Below w.heap.size w W → Ins W A0 c0 xs A1 c1 l) := ⟨fun W hb => ⟨Kd.C_below HH.out.s0 hb, HH.out.k0, by omega, Kd.C_below HH.out.s1 hb, HH.out.k1, by omega, HH.out.byt, HH.out.G.tab.below hb⟩⟩
 have HT := Aside0.mk (txt_of HH.out.byt (by omega))
 have HIV : Aside0 (∀ W, Below w.heap.size w W → Calls Tryd.prog 12 #[.slice A1 l.length c1] W fun e w' => e = .returned (.bool (ff q l .val [] 0).isNone) ∧ Below W.heap.size W w') := ⟨fun W hb => isValue A1 c1 l W (HH.out.G.below hb) (Kd.C_below HH.out.s1 hb) HH.out.k1 HH.out.byt (by omega)⟩
 have HCM : Aside0 (∀ (p : Bool) W, Below w.heap.size w W → Calls Tryd.prog 15 #[.slice A1 l.length c1, .bool p] W fun e w' => (∃ B k, e = .returned (.slice B (cw q (l ++ [0]) p (l ++ [0]).length 0).length k) ∧ (cw q (l ++ [0]) p (l ++ [0]).length 0).length ≤ k ∧ Kd.C (Kd.int .u8) w' B (cw q (l ++ [0]) p (l ++ [0]).length 0).length (cw q (l ++ [0]) p (l ++ [0]).length 0)) ∧ Below W.heap.size W w') := ⟨fun p W hb => compacted (HH.out.G.below hb) (Kd.C_below HH.out.s1 hb) HH.out.k1 HH.out.byt (by omega)⟩
 have HOUT : Aside0 (∀ W, Below w.heap.size w W → Calls Tryd.prog 20 #[.slice A0 xs.length c0, .slice A1 l.length c1, .bool esc, .bool false] W (ImplOut q W xs l esc)) := ⟨fun W hb => implOutput (HINS.out W hb)⟩
 have HCO : Aside0 (∀ W, Below w.heap.size w W → Calls Tryd.prog 13 #[] W fun e w' => e = .returned (.bool true) ∧ Below W.heap.size W w') := ⟨fun W hb => compacts W (HH.out.G.tab.below hb)⟩
 have HSA : Aside0 (∀ W B k (ys : List Int) C n, ys.length ≤ k → ys.length ≤ n → Kd.C (Kd.int .u8) W B ys.length ys → Kd.C (Kd.int .u8) W C ys.length ys → Calls Tryd.prog 16 #[.slice B ys.length k, .slice C ys.length n] W fun e w' => e = .returned (.bool true) ∧ Drawn0 W w') := ⟨fun W B k ys C n hk hn h1 h2 => spec_Same.calls B k ys C n ys true W h1 hk h2 hn (by unfold spec_Same.f; simp)⟩
 have HZ2 := Aside0.mk z2
 clear hm0 hm1 z0 z1 z2
 go_enter Tryd.func6, Tryd.ntmps6
 go_wp2_with fail
 with_reducible refine HFEW.out.mono ?_
 rintro e w1 ⟨rfl, hd⟩
 have HB := Aside0.mk (below_step HB0.out hd.below)
 clear hd
 go_wp2_with fail
 with_reducible refine (HOUT.out _ HB.out).mono ?_
 rintro e w2 (⟨A2, k2, rfl, hk2, hc2, hb2⟩ | ⟨A2, k2, rfl, hk2, hc2, hgd, hb2⟩)
 ·have HB2 := Aside0.mk (below_step HB.out hb2)
  have HSM := Aside0.mk (HSA.out w2 A2 k2 xs A0 c0 hk2 HH.out.k0 hc2 (Kd.C_below HH.out.s0 HB2.out))
  clear hb2 hk2 hc2
  go_wp2_with fail
  with_reducible refine HSM.out.mono ?_
  rintro e w3 ⟨rfl, hd3⟩
  have HB3 := Aside0.mk (below_step HB2.out hd3.below)
  clear hd3
  go_wp2_with fail
  with_reducible refine (HCO.out _ HB3.out).mono ?_
  rintro e w4 ⟨rfl, hb4⟩
  have HB4 := Aside0.mk (below_step HB3.out hb4)
  clear hb4
  go_wp2_with fail
  go_ret
  exact ⟨rfl, HB4.out⟩
 ·have HB2 := Aside0.mk (below_step HB.out hb2)
  have HC2 := Aside0.mk (And.intro hk2 hc2)
  have hz2 := HZ2.out
  have hiv := good_ff hgd
  rw [hiv] at HIV
  have hc0 := good_cw (esc := false) hgd
  rw [ewl_id (fun e => by cases e)] at hc0
  have HCM0 := Aside0.mk (HCM.out false)
  have HCM1 := Aside0.mk (HCM.out esc)
  rw [hc0] at HCM0
  rw [good_cw (esc := esc) hgd] at HCM1
  obtain ⟨p, hfj, hp2⟩ := Option.map_eq_some_iff.1 (good_fj (esc := esc) hgd HH.out.byt (by omega))
  have hTp := fj_pos (e := p.1) (T := p.2) HT.out hfj
  have hTl := fj_len (e := p.1) (T := p.2) HT.out (fun p i h => by cases h) hfj
  rw [hp2] at hTp hTl
  have HTP := Aside0.mk (And.intro hTp hTl)
  obtain ⟨T, hT⟩ : ∃ T, T = ewl l esc := ⟨_, rfl⟩
  rw [← hT] at HC2 HTP HCM1 ⊢
  clear hb2 hk2 hc2 hgd hiv hc0 hfj hp2 hTp hTl hz2 hT HCM
  go_wp2_with fail
  with_reducible refine (HIV.out _ HB2.out).mono ?_
  rintro e w3 ⟨rfl, hb3⟩
  have HB3 := Aside0.mk (below_step HB2.out hb3)
  have HC3 := Aside0.mk (Kd.C_below HC2.out.2 hb3)
  clear hb3
  go_wp2_with fail
  with_reducible refine (HCM0.out _ HB3.out).mono ?_
  rintro e w4 ⟨⟨B4, k4, rfl, hk4, hc4⟩, hb4⟩
  have HB4 := Aside0.mk (below_step HB3.out hb4)
  have HC4 := Aside0.mk (Kd.C_below HC3.out hb4)
  have HSM := Aside0.mk (HSA.out w4 B4 k4 l A1 c1 hk4 HH.out.k1 hc4 (Kd.C_below HH.out.s1 HB4.out))
  clear hb4 hk4 hc4
  go_wp2_with fail
  with_reducible refine HSM.out.mono ?_
  rintro e w5 ⟨rfl, hd5⟩
  have HB5 := Aside0.mk (below_step HB4.out hd5.below)
  have HC5 := Aside0.mk (Kd.C_below HC4.out hd5.below)
  clear hd5
  go_wp2_with fail
  with_reducible refine (HCM1.out _ HB5.out).mono ?_
  rintro e w6 ⟨⟨B6, k6, rfl, hk6, hc6⟩, hb6⟩
  have HB6 := Aside0.mk (below_step HB5.out hb6)
  have HBE := Aside0.mk (behind (Kd.C_below HC5.out hb6) HC2.out.1 (Kd.C_below HH.out.s0 HB6.out) HH.out.k0 hc6 hk6 HTP.out.1 (by have h1 := HTP.out.2; have h2 := HZ2.out; rw [List.length_append] at h1 ⊢; simp only [List.length_cons, List.length_nil] at h1; omega))
  clear hb6 hk6 hc6
  have HBE2 : Aside0 (Calls Tryd.prog 14 #[.slice A2 (xs.length + T.length) k2, .slice A0 xs.length c0, .slice B6 T.length k6] w6 fun e w' => e = .returned (.bool true) ∧ Drawn0 w6 w') := ⟨by rw [← List.length_append]; exact HBE.out⟩
  go_wp2_with fail
  with_reducible refine HBE2.out.mono ?_
  rintro e w7 ⟨rfl, hd7⟩
  have HB7 := Aside0.mk (below_step HB6.out hd7.below)
  clear hd7
  go_wp2_with fail
  go_ret
  exact ⟨rfl, HB7.out⟩
end
theorem output_walk (a0 : Option Addr) (len0 cap0 : Nat) (z0 : List Int) (a1 : Option Addr) (len1 cap1 : Nat) (z1 : List Int) (b2 : Bool) (w : World) (w0 : (a0 = none ∧ len0 = 0 ∧ cap0 = 0 ∧ z0 = []) ∨ ∃ x, a0 = some x ∧ len0 ≤ cap0 ∧ cap0 ≤ maxLen ∧ z0.length = cap0 ∧ (∀ i, i < z0.length → w.cell? (x.add i) = some (.int .u8 (z0.getD i 0))) ∧ ∀ n ∈ z0, (Lit.int .u8 n).wf = true) (y0 : len0 * 1 ≤ 140737488351232)
  (w1 : (a1 = none ∧ len1 = 0 ∧ cap1 = 0 ∧ z1 = []) ∨ ∃ x, a1 = some x ∧ len1 ≤ cap1 ∧ cap1 ≤ maxLen ∧ z1.length = cap1 ∧ (∀ i, i < z1.length → w.cell? (x.add i) = some (.int .u8 (z1.getD i 0))) ∧ ∀ n ∈ z1, (Lit.int .u8 n).wf = true) (y1 : len1 * 1 ≤ 140737488351232) {q : ByteArray → ByteArray} (hG : G q w) :
  Calls Tryd.prog 6 #[.slice a0 len0 cap0, .slice a1 len1 cap1, .bool b2] w fun e w' => e = .returned (.bool true) ∧ Below w.heap.size w w' := by
 obtain ⟨l0, rfl, hr0, hm0, hw0, hc0⟩ := ReadsInt.ofRowC w0
 obtain ⟨l1, rfl, hr1, hm1, hw1, hc1⟩ := ReadsInt.ofRowC w1
 exact outputLaw ⟨Kd.C_of_reads (d := (0 : Int)) (h1 := fun _ => rfl) hr0, hc0, Kd.C_of_reads (d := (0 : Int)) (h1 := fun _ => rfl) hr1, hc1, (fun x hx => by have := bytes_of l1 hw1 x hx; omega), hG, hm0, hm1⟩
end Go.Proofs.YtbikiibpjdiaaaaDoor.Err
