/- FnCompactTwice: what is compact is made compact to itself. -/
import Derived.Test.YtbikiibpjdiaaaaDoorFL
import Derived.Test.YtbikiibpjdiaaaaDoorFR
namespace Go.Proofs.YtbikiibpjdiaaaaDoor.Err
open Go.RowKit Go.Proofs.YtbikiibpjdiaaaaDoorW.PrintWords Go.Proofs.YtbikiibpjdiaaaaDoorW.PrintLast Go.Proofs.YtbikiibpjdiaaaaDoorW.PrintMore
open Go.Proofs.YtbikiibpjdiaaaaDoor.Dig Go.Proofs.YtbikiibpjdiaaaaDoor.Tab Go.Proofs.YtbikiibpjdiaaaaDoor.QF Go.Proofs.YtbikiibpjdiaaaaDoor.QM
set_option linter.unusedVariables false
section
variable {q : ByteArray → ByteArray} {w : World} {A A0 A1 : Option Addr} {c0 c1 n0 g : Nat} {xs l T : List Int} {esc : Bool} {e : Int}
set_option maxRecDepth 100000 in
set_option maxHeartbeats 16000000 in
theorem few1 (hb : w.heap[g]? = some (.cells #[.slice A0 n0 c0] 22 (0, 0))) (h0 : n0 ≤ 2147483647) : Calls Tryd.prog 10 #[.slice (some ⟨g, 0, none⟩) 1 1] w fun e w' => e = .returned (.bool (decide (n0 ≤ 10000))) ∧ Drawn0 w w' := by
 have x0 : w.cell? ⟨g, 0, none⟩ = some (.slice A0 n0 c0) := by rw [cell_of_row w g 0 _ _ _ hb]; rfl
 have e0 : wrap64 (0 + (n0 : Int)) = (n0 : Int) := by unfold wrap64; omega
 have hD : decide ((n0 : Int) ≤ 10000) = decide (n0 ≤ 10000) := by rw [decide_eq_decide]; omega
 clear hb
 go_enter Tryd.func10, Tryd.ntmps10
 go_wp2_with fail
 go_loopg [3, 8] 3 (fun kq v3 v8 w' => ((v3 = .int .i64 0 ∧ v8 = .int .i64 0 ∧ Aside0 (3 ≤ kq)) ∨ (v3 = .int .i64 (n0 : Int) ∧ v8 = .int .i64 1 ∧ Aside0 (2 ≤ kq))) ∧ Drawn0 w w')
 case atStart => exact ⟨.inl ⟨rfl, rfl, ⟨Nat.le_refl _⟩⟩, Drawn0.refl _⟩
 case round =>
  obtain ⟨⟨rfl, rfl, HA⟩ | ⟨rfl, rfl, HA⟩, ⟨m1, rfl⟩⟩ := hrel
  ·have a1 := HA.out
   obtain _ | g0 := gk
   ·exfalso; omega
   go_wp2_with fail
   go_roundg g0
   case measure => omega
   case rel => exact ⟨.inr ⟨by first | rfl | rw [e0] | simp [e0], rfl, ⟨by omega⟩⟩, ⟨m1, rfl⟩⟩
  ·have a1 := HA.out
   obtain _ | g0 := gk
   ·exfalso; omega
   go_wp2_with fail
   go_ret
   exact ⟨by first | rw [hD] | rfl, ⟨m1, rfl⟩⟩
/-- What was written compact, made compact again. -/
theorem again (hby : ∀ y, y ∈ l → 0 ≤ y ∧ y < 256) (hl : l.length ≤ 10000) (h : fj (l ++ [0]) esc none = some (e, T)) (k : Nat) (hk : T.length ≤ k) (hC : Kd.C (Kd.int .u8) w A T.length T) (hG : Glob w) :
  Calls Tryd.prog 11 #[.slice none 0 0, .slice A T.length k, .bool esc] w (ImplAns w [] (some T)) := by
 obtain ⟨hM, hb, hn, hf⟩ := fj_twice hby hl h
 refine implCompact (xs := []) (l := T) ⟨nil_C w, Nat.le_refl _, by decide, hC, hk, hn, hb, hG⟩ fun N W v A c hd hne => ?_
 have := appendCompactG (esc := esc) hd hne (fun hg => by
  rw [hf, ← good_cw (esc := esc) hg, fj_cw hM hf]
  rfl)
 rw [hf] at this
 exact this
set_option maxRecDepth 100000 in
set_option maxHeartbeats 16000000 in
theorem twiceLaw (h : LawIn q w none 0 [] A1 c1 l) : Calls Tryd.prog 4 #[.slice A1 l.length c1, .bool esc] w fun e w' => e = .returned (.bool true) ∧ Below w.heap.size w w' := by
 have hm1 := h.m1
 unfold maxLen at hm1
 have HH := Aside0.mk h
 clear h
 by_cases z1 : (l.length : Int) > 2147483647
 ·have b1 : decide ((2147483647 : Int) < (l.length : Int)) = true := decide_eq_true z1
  go_enter Tryd.func4, Tryd.ntmps4
  go_wp2_with fail
  go_ret
  exact ⟨rfl, Below.refl _ _⟩
 have b1 : decide ((2147483647 : Int) < (l.length : Int)) = false := decide_eq_false z1
 have HFEW : Aside0 (Calls Tryd.prog 10 #[.slice (some ⟨w.heap.size, 0, none⟩) 1 1] (w.alloc (.cells #[.slice A1 l.length c1] 22)) fun e w' => e = .returned (.bool (decide (l.length ≤ 10000))) ∧ Drawn0 (w.alloc (.cells #[.slice A1 l.length c1] 22)) w') := ⟨few1 (blk_new w _) (by omega)⟩
 have HB0 : Aside0 (Below w.heap.size w (w.alloc (.cells #[.slice A1 l.length c1] 22))) := ⟨below_alloc (Below.refl _ _) _⟩
 by_cases z2 : l.length ≤ 10000
 case neg =>
  rw [decide_eq_false z2] at HFEW
  clear hm1 z1 z2
  go_enter Tryd.func4, Tryd.ntmps4
  go_wp2_with fail
  with_reducible refine HFEW.out.mono ?_
  rintro e w1 ⟨rfl, hd⟩
  have HB := Aside0.mk (below_step HB0.out hd.below)
  clear hd
  go_wp2_with fail
  go_ret
  exact ⟨rfl, HB.out⟩
 rw [decide_eq_true z2] at HFEW
 have HIV : Aside0 (∀ W, Below w.heap.size w W → Calls Tryd.prog 12 #[.slice A1 l.length c1] W fun e w' => e = .returned (.bool (ff q l .val [] 0).isNone) ∧ Below W.heap.size W w') := ⟨fun W hb => isValue A1 c1 l W (HH.out.G.below hb) (Kd.C_below HH.out.s1 hb) HH.out.k1 HH.out.byt (by omega)⟩
 have HCP : Aside0 (∀ W, Below w.heap.size w W → Calls Tryd.prog 11 #[.slice none 0 0, .slice A1 l.length c1, .bool esc] W (ImplAns W [] ((fj (l ++ [0]) esc none).map (·.2)))) := ⟨fun W hb => implCompact (xs := []) ⟨nil_C W, Nat.le_refl _, by decide, Kd.C_below HH.out.s1 hb, HH.out.k1, by omega, HH.out.byt, HH.out.G.tab.below hb⟩ fun N W v A c h hne => appendCompact h hne (by omega)⟩
 have HFF := Aside0.mk (fj_ff (q := q) (esc := esc) (ind := none) HH.out.byt z2)
 cases hfj : fj (l ++ [0]) esc none with
 | none =>
  have hiv : (ff q l .val [] 0).isNone = false := by
   have := HFF.out.1 hfj
   cases hf : ff q l .val [] 0 with
   | none => exact absurd hf this
   | some p => rfl
  rw [hiv] at HIV
  clear hm1 z1 z2 hfj hiv HFF HCP
  go_enter Tryd.func4, Tryd.ntmps4
  go_wp2_with fail
  with_reducible refine HFEW.out.mono ?_
  rintro e w1 ⟨rfl, hd⟩
  have HB := Aside0.mk (below_step HB0.out hd.below)
  clear hd
  go_wp2_with fail
  with_reducible refine (HIV.out _ HB.out).mono ?_
  rintro e w3 ⟨rfl, hb3⟩
  have HB3 := Aside0.mk (below_step HB.out hb3)
  clear hb3
  go_wp2_with fail
  go_ret
  exact ⟨rfl, HB3.out⟩
 | some p =>
  obtain ⟨e0, T⟩ := p
  have HAG : Aside0 (∀ W A k, Below w.heap.size w W → T.length ≤ k → Kd.C (Kd.int .u8) W A T.length T → Calls Tryd.prog 11 #[.slice none 0 0, .slice A T.length k, .bool esc] W (ImplAns W [] (some T))) := ⟨fun W A k hb hk hC => again HH.out.byt z2 hfj k hk hC (HH.out.G.tab.below hb)⟩
  have HSA : Aside0 (∀ W B k C n, T.length ≤ k → T.length ≤ n → Kd.C (Kd.int .u8) W B T.length T → Kd.C (Kd.int .u8) W C T.length T → Calls Tryd.prog 16 #[.slice B T.length k, .slice C T.length n] W fun e w' => e = .returned (.bool true) ∧ Drawn0 W w') := ⟨fun W B k C n hk hn h1 h2 => spec_Same.calls B k T C n T true W h1 hk h2 hn (by unfold spec_Same.f; simp)⟩
  rw [hfj] at HCP
  have hiv : (ff q l .val [] 0).isNone = true := by
   cases hf : ff q l .val [] 0 with
   | none => rfl
   | some p => have := HFF.out.2 (by rw [hf]; simp); rw [hfj] at this; cases this
  rw [hiv] at HIV
  clear hm1 z1 z2 hfj hiv HFF
  go_enter Tryd.func4, Tryd.ntmps4
  go_wp2_with fail
  with_reducible refine HFEW.out.mono ?_
  rintro e w1 ⟨rfl, hd⟩
  have HB := Aside0.mk (below_step HB0.out hd.below)
  clear hd
  go_wp2_with fail
  with_reducible refine (HIV.out _ HB.out).mono ?_
  rintro e w2 ⟨rfl, hb2⟩
  have HB2 := Aside0.mk (below_step HB.out hb2)
  clear hb2
  go_wp2_with fail
  with_reducible refine (HCP.out _ HB2.out).mono ?_
  rintro e w3 ⟨A3, k3, rfl, hk3, hc3, hb3⟩
  rw [List.nil_append] at hk3 hc3 ⊢
  have HB3 := Aside0.mk (below_step HB2.out hb3)
  have HC3 := Aside0.mk (And.intro hk3 hc3)
  clear hb3 hk3 hc3
  go_wp2_with fail
  with_reducible refine (HAG.out _ A3 k3 HB3.out HC3.out.1 HC3.out.2).mono ?_
  rintro e w4 ⟨A4, k4, rfl, hk4, hc4, hb4⟩
  rw [List.nil_append] at hk4 hc4 ⊢
  have HB4 := Aside0.mk (below_step HB3.out hb4)
  have HSM := Aside0.mk (HSA.out w4 A3 k3 A4 k4 HC3.out.1 hk4 (Kd.C_below HC3.out.2 hb4) hc4)
  clear hb4 hk4 hc4
  go_wp2_with fail
  with_reducible refine HSM.out.mono ?_
  rintro e w5 ⟨rfl, hd5⟩
  have HB5 := Aside0.mk (below_step HB4.out hd5.below)
  clear hd5
  go_wp2_with fail
  go_ret
  exact ⟨rfl, HB5.out⟩
end
theorem twice_walk (a0 : Option Addr) (len0 cap0 : Nat) (z0 : List Int) (b1 : Bool) (w : World) (w0 : (a0 = none ∧ len0 = 0 ∧ cap0 = 0 ∧ z0 = []) ∨ ∃ x, a0 = some x ∧ len0 ≤ cap0 ∧ cap0 ≤ maxLen ∧ z0.length = cap0 ∧ (∀ i, i < z0.length → w.cell? (x.add i) = some (.int .u8 (z0.getD i 0))) ∧ ∀ n ∈ z0, (Lit.int .u8 n).wf = true) (y0 : len0 * 1 ≤ 140737488351232) {q : ByteArray → ByteArray} (hG : G q w) :
  Calls Tryd.prog 4 #[.slice a0 len0 cap0, .bool b1] w fun e w' => e = .returned (.bool true) ∧ Below w.heap.size w w' := by
 obtain ⟨l0, rfl, hr0, hm0, hw0, hc0⟩ := ReadsInt.ofRowC w0
 exact twiceLaw ⟨nil_C w, Nat.le_refl _, Kd.C_of_reads (d := (0 : Int)) (h1 := fun _ => rfl) hr0, hc0, (fun x hx => by have := bytes_of l0 hw0 x hx; omega), hG, by decide, hm0⟩
end Go.Proofs.YtbikiibpjdiaaaaDoor.Err
