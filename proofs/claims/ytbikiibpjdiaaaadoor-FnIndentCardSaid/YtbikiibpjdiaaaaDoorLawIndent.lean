/- FnIndent: any bytes are indented just where they are one value. -/
import Derived.Test.YtbikiibpjdiaaaaDoorLR
import Derived.Test.YtbikiibpjdiaaaaDoorFI
namespace Go.Proofs.YtbikiibpjdiaaaaDoor.Err
open Go.RowKit Go.Proofs.YtbikiibpjdiaaaaDoorW.PrintWords Go.Proofs.YtbikiibpjdiaaaaDoorW.PrintLast Go.Proofs.YtbikiibpjdiaaaaDoorW.PrintMore
open Go.Proofs.YtbikiibpjdiaaaaDoor.Dig Go.Proofs.YtbikiibpjdiaaaaDoor.Tab Go.Proofs.YtbikiibpjdiaaaaDoor.QF Go.Proofs.YtbikiibpjdiaaaaDoor.QM
set_option linter.unusedVariables false
section
variable {q : ByteArray → ByteArray} {w : World} {A0 A1 : Option Addr} {c0 c1 : Nat} {xs l : List Int} {esc tr : Bool} {p i : ByteArray}
/-- The bounds of what is indented. -/
structure Bnd (q : ByteArray → ByteArray) (xs l : List Int) (p i : ByteArray) : Prop where
 all : xs.length + l.length ≤ 2000
 pre : p.size ≤ 8
 ind : i.size ≤ 8
 deep : dp q l .val [] 0 ≤ 60
set_option maxRecDepth 100000 in
set_option maxHeartbeats 16000000 in
theorem indentOk (h : LawIn q w A0 c0 xs A1 c1 l) (hp : p.size ≤ maxLen) (hi : i.size ≤ maxLen) (hs0 : xs.length ≤ 2147483647) (hs1 : l.length ≤ 2147483647) : Calls Tryd.prog 22 #[.slice A0 xs.length c0, .slice A1 l.length c1, .string p, .string i] w fun e w' => (∃ b : Bool, e = .returned (.bool b) ∧ (b = true → Bnd q xs l p i)) ∧ Below w.heap.size w w' := by
 have hm0 := h.m0
 have hm1 := h.m1
 unfold maxLen at hm0 hm1 hp hi
 have es : wrap64 ((xs.length : Int) + (l.length : Int)) = ((xs.length + l.length : Nat) : Int) := by unfold wrap64; omega
 obtain ⟨S, hS⟩ : ∃ S : Int, S = ((xs.length + l.length : Nat) : Int) := ⟨_, rfl⟩
 rw [← hS] at es
 have HS := Aside0.mk hS
 have HH := Aside0.mk h
 clear h
 by_cases z0 : S ≤ 2000
 case neg =>
  have b0 : decide (S ≤ 2000) = false := decide_eq_false z0
  clear hS z0 hm0 hm1 hp hi hs0 hs1
  go_enter Tryd.func22, Tryd.ntmps22
  go_wp2_with fail
  go_ret
  exact ⟨⟨false, rfl, fun e => by cases e⟩, Below.refl _ _⟩
 have b0 : decide (S ≤ 2000) = true := decide_eq_true z0
 by_cases z1 : (p.size : Int) ≤ 8
 case neg =>
  have b1 : decide ((p.size : Int) ≤ 8) = false := decide_eq_false z1
  clear hS z0 z1 hm0 hm1 hp hi hs0 hs1
  go_enter Tryd.func22, Tryd.ntmps22
  go_wp2_with fail
  go_ret
  exact ⟨⟨false, rfl, fun e => by cases e⟩, Below.refl _ _⟩
 have b1 : decide ((p.size : Int) ≤ 8) = true := decide_eq_true z1
 by_cases z2 : (i.size : Int) ≤ 8
 case neg =>
  have b2 : decide ((i.size : Int) ≤ 8) = false := decide_eq_false z2
  clear hS z0 z1 z2 hm0 hm1 hp hi hs0 hs1
  go_enter Tryd.func22, Tryd.ntmps22
  go_wp2_with fail
  go_ret
  exact ⟨⟨false, rfl, fun e => by cases e⟩, Below.refl _ _⟩
 have b2 : decide ((i.size : Int) ≤ 8) = true := decide_eq_true z2
 have HD := Aside0.mk (depth A1 c1 l w HH.out.G HH.out.s1 HH.out.k1 HH.out.byt (by omega))
 obtain ⟨D, hD⟩ : ∃ D, D = dp q l .val [] 0 := ⟨_, rfl⟩
 rw [← hD] at HD
 have HDD := Aside0.mk hD
 have HZ := Aside0.mk (And.intro z0 (And.intro z1 z2))
 clear hS z0 z1 z2 hm0 hm1 hp hi hs0 hs1 hD
 go_enter Tryd.func22, Tryd.ntmps22
 go_wp2_with fail
 with_reducible refine HD.out.mono ?_
 rintro e w1 ⟨rfl, hb1⟩
 have HB1 := Aside0.mk hb1
 clear hb1
 go_wp2_with fail
 go_ret
 exact ⟨⟨_, rfl, fun e => ⟨by have := HZ.out.1; have := HS.out; omega, by have := HZ.out.2.1; omega, by have := HZ.out.2.2; omega, by rw [← HDD.out]; exact of_decide_eq_true e⟩⟩, HB1.out⟩
/-- The trimmed end told for the terminated copy. -/
theorem ti_none (h : fj (l ++ [0]) esc (some (sb p, sb i)) = none) : ti l esc tr p i = none := by unfold ti; rw [h]; rfl
set_option maxRecDepth 100000 in
set_option maxHeartbeats 32000000 in
theorem indentLaw (h : LawIn q w A0 c0 xs A1 c1 l) (hp : p.size ≤ maxLen) (hi : i.size ≤ maxLen) : Calls Tryd.prog 8 #[.slice A0 xs.length c0, .slice A1 l.length c1, .string p, .string i, .bool esc, .bool tr] w fun e w' => e = .returned (.bool true) ∧ Below w.heap.size w w' := by
 have HPI := Aside0.mk (And.intro hp hi)
 have hm0 := h.m0
 have hm1 := h.m1
 unfold maxLen at hm0 hm1 hp hi
 have HH := Aside0.mk h
 clear h
 by_cases z0 : (xs.length : Int) > 2147483647
 ·have b0 : decide ((2147483647 : Int) < (xs.length : Int)) = true := decide_eq_true z0
  go_enter Tryd.func8, Tryd.ntmps8
  go_wp2_with fail
  go_ret
  exact ⟨rfl, Below.refl _ _⟩
 have b0 : decide ((2147483647 : Int) < (xs.length : Int)) = false := decide_eq_false z0
 by_cases z1 : (l.length : Int) > 2147483647
 ·have b1 : decide ((2147483647 : Int) < (l.length : Int)) = true := decide_eq_true z1
  go_enter Tryd.func8, Tryd.ntmps8
  go_wp2_with fail
  go_ret
  exact ⟨rfl, Below.refl _ _⟩
 have b1 : decide ((2147483647 : Int) < (l.length : Int)) = false := decide_eq_false z1
 by_cases z2 : (p.size : Int) > 2147483647
 ·have b2 : decide ((2147483647 : Int) < (p.size : Int)) = true := decide_eq_true z2
  go_enter Tryd.func8, Tryd.ntmps8
  go_wp2_with fail
  go_ret
  exact ⟨rfl, Below.refl _ _⟩
 have b2 : decide ((2147483647 : Int) < (p.size : Int)) = false := decide_eq_false z2
 by_cases z3 : (i.size : Int) > 2147483647
 ·have b3 : decide ((2147483647 : Int) < (i.size : Int)) = true := decide_eq_true z3
  go_enter Tryd.func8, Tryd.ntmps8
  go_wp2_with fail
  go_ret
  exact ⟨rfl, Below.refl _ _⟩
 have b3 : decide ((2147483647 : Int) < (i.size : Int)) = false := decide_eq_false z3
 have HOK := Aside0.mk (indentOk (p := p) (i := i) HH.out HPI.out.1 HPI.out.2 (by omega) (by omega))
 clear hm0 hm1 hp hi z0 z1 z2 z3
 go_enter Tryd.func8, Tryd.ntmps8
 go_wp2_with fail
 with_reducible refine HOK.out.mono ?_
 rintro e w1 ⟨⟨b, rfl, hbnd⟩, hb1⟩
 have HB := Aside0.mk hb1
 cases b with
 | false =>
  clear hb1 hbnd
  go_wp2_with fail
  go_ret
  exact ⟨rfl, HB.out⟩
 | true =>
  obtain ⟨n0, n1, n2, n3⟩ := hbnd rfl
  have HINS : Aside0 (∀ W, Below w.heap.size w W → Ins W A0 c0 xs A1 c1 l) := ⟨fun W hb => ⟨Kd.C_below HH.out.s0 hb, HH.out.k0, by omega, Kd.C_below HH.out.s1 hb, HH.out.k1, by omega, HH.out.byt, HH.out.G.tab.below hb⟩⟩
  have HT := Aside0.mk (txt_of HH.out.byt (by omega))
  have HIV : Aside0 (∀ W, Below w.heap.size w W → Calls Tryd.prog 12 #[.slice A1 l.length c1] W fun e w' => e = .returned (.bool (ff q l .val [] 0).isNone) ∧ Below W.heap.size W w') := ⟨fun W hb => isValue A1 c1 l W (HH.out.G.below hb) (Kd.C_below HH.out.s1 hb) HH.out.k1 HH.out.byt (by omega)⟩
  have HCM : Aside0 (∀ W, Below w.heap.size w W → Calls Tryd.prog 24 #[.slice A1 l.length c1, .string p, .string i, .bool esc, .bool tr] W fun e w' => IndAns q l esc tr p i e w' ∧ Below W.heap.size W w') := ⟨fun W hb => indented (HH.out.G.below hb) (Kd.C_below HH.out.s1 hb) HH.out.k1 HH.out.byt (by omega) n1 n2⟩
  have HPASS : Aside0 (∀ W, Below w.heap.size w W → Calls Tryd.prog 23 #[.slice A0 xs.length c0, .slice A1 l.length c1, .string p, .string i, .bool esc, .bool tr] W (ImplAns W xs (ti l esc tr p i))) := ⟨fun W hb => implIndent (HINS.out W hb) n1 n2⟩
  have HCO : Aside0 (∀ W, Below w.heap.size w W → Calls Tryd.prog 13 #[] W fun e w' => e = .returned (.bool true) ∧ Below W.heap.size W w') := ⟨fun W hb => compacts W (HH.out.G.tab.below hb)⟩
  have HFF := Aside0.mk (fj_ff (q := q) (esc := esc) (ind := some (sb p, sb i)) HH.out.byt (by omega : l.length ≤ 10000))
  cases hfj : fj (l ++ [0]) esc (some (sb p, sb i)) with
  | none =>
   rw [ti_none hfj] at HPASS
   have hiv : (ff q l .val [] 0).isNone = false := by
    have := HFF.out.1 hfj
    cases hf : ff q l .val [] 0 with
    | none => exact absurd hf this
    | some p => rfl
   rw [hiv] at HIV
   clear hfj hiv HFF HCM n0 n1 n2 n3 hb1 hbnd
   go_wp2_with fail
   with_reducible refine (HPASS.out _ HB.out).mono ?_
   rintro e w2 ⟨v2, rfl, hb2⟩
   have HB2 := Aside0.mk (below_step HB.out hb2)
   clear hb2
   go_wp2_with fail
   with_reducible refine (HIV.out _ HB2.out).mono ?_
   rintro e w3 ⟨rfl, hb3⟩
   have HB3 := Aside0.mk (below_step HB2.out hb3)
   clear hb3
   go_wp2_with fail
   with_reducible refine (HCO.out _ HB3.out).mono ?_
   rintro e w4 ⟨rfl, hb4⟩
   have HB4 := Aside0.mk (below_step HB3.out hb4)
   clear hb4
   go_wp2_with fail
   go_ret
   exact ⟨rfl, HB4.out⟩
  | some r =>
   obtain ⟨e0, T0⟩ := r
   obtain ⟨T, hT⟩ : ∃ T, T = T0 ++ if tr = true then seg (l ++ [0]) e0 l.length else [] := ⟨_, rfl⟩
   have hti : ti l esc tr p i = some T := by unfold ti; rw [hfj, hT]; rfl
   rw [hti] at HPASS
   have HR : Aside0 (∀ E R, EndAt (l ++ [0]) E → (E = 0 ∨ 0 < E ∧ ¬ isBlank (rd (l ++ [0]) (E - 1))) → R = iw q (l ++ [0]) esc (sb p) (sb i) E (l ++ [0]).length 0 false 0 ++ (if tr = true then seg (l ++ [0]) E l.length else []) → R = T) := ⟨fun E R h1 h2 h3 => by
    obtain ⟨h4, h5⟩ := fj_iw (q := q) HT.out h1 h2 hfj
    rw [h3, h4, h5, hT]⟩
   have hiv : (ff q l .val [] 0).isNone = true := by
    cases hf : ff q l .val [] 0 with
    | none => rfl
    | some p => have := HFF.out.2 (by rw [hf]; simp); rw [hfj] at this; cases this
   rw [hiv] at HIV
   have hTp := fj_pos HT.out hfj
   have hTl := fj_len HT.out (fun p' i' h => by cases h; rw [sb_len, sb_len]; exact ⟨n1, n2⟩) hfj
   have HTP : Aside0 (0 < T.length ∧ (xs ++ T).length ≤ 10000000000000) := ⟨by
    have hsl : (seg (l ++ [0]) e0 l.length).length ≤ l.length := by unfold seg; rw [List.length_drop, List.length_take]; omega
    rw [hT]
    rw [List.length_append, List.length_singleton] at hTl
    refine ⟨by rw [List.length_append]; omega, ?_⟩
    rw [List.length_append, List.length_append]
    split
    ·omega
    ·rw [List.length_nil]; omega⟩
   clear hfj hiv HFF hTp hTl hti hT n0 n1 n2 n3 hb1 hbnd
   go_wp2_with fail
   with_reducible refine (HPASS.out _ HB.out).mono ?_
   rintro e w2 ⟨A2, k2, rfl, hk2, hc2, hb2⟩
   have HB2 := Aside0.mk (below_step HB.out hb2)
   have HC2 := Aside0.mk (And.intro hk2 hc2)
   clear hb2 hk2 hc2
   go_wp2_with fail
   with_reducible refine (HIV.out _ HB2.out).mono ?_
   rintro e w3 ⟨rfl, hb3⟩
   have HB3 := Aside0.mk (below_step HB2.out hb3)
   have HC3 := Aside0.mk (Kd.C_below HC2.out.2 hb3)
   clear hb3
   go_wp2_with fail
   with_reducible refine (HCM.out _ HB3.out).mono ?_
   rintro e w4 ⟨⟨E, R, B4, k4, h1, h0, h2, h3, rfl, hk4, hc4⟩, hb4⟩
   obtain rfl := HR.out E R h1 h2 h3
   have HB4 := Aside0.mk (below_step HB3.out hb4)
   have HBE := Aside0.mk (behind (Kd.C_below HC3.out hb4) HC2.out.1 (Kd.C_below HH.out.s0 HB4.out) HH.out.k0 hc4 hk4 HTP.out.1 HTP.out.2)
   clear hb4 hk4 hc4 h0 h1 h2 h3
   have HBE2 : Aside0 (Calls Tryd.prog 14 #[.slice A2 (xs.length + R.length) k2, .slice A0 xs.length c0, .slice B4 R.length k4] w4 fun e w' => e = .returned (.bool true) ∧ Drawn0 w4 w') := ⟨by rw [← List.length_append]; exact HBE.out⟩
   go_wp2_with fail
   with_reducible refine HBE2.out.mono ?_
   rintro e w5 ⟨rfl, hd5⟩
   have HB5 := Aside0.mk (below_step HB4.out hd5.below)
   clear hd5
   go_wp2_with fail
   go_ret
   exact ⟨rfl, HB5.out⟩
end
theorem indent_walk (a0 : Option Addr) (len0 cap0 : Nat) (z0 : List Int) (a1 : Option Addr) (len1 cap1 : Nat) (z1 : List Int) (p i : ByteArray) (b4 b5 : Bool) (w : World) (w0 : (a0 = none ∧ len0 = 0 ∧ cap0 = 0 ∧ z0 = []) ∨ ∃ x, a0 = some x ∧ len0 ≤ cap0 ∧ cap0 ≤ maxLen ∧ z0.length = cap0 ∧ (∀ i, i < z0.length → w.cell? (x.add i) = some (.int .u8 (z0.getD i 0))) ∧ ∀ n ∈ z0, (Lit.int .u8 n).wf = true) (y0 : len0 * 1 ≤ 140737488351232)
  (w1 : (a1 = none ∧ len1 = 0 ∧ cap1 = 0 ∧ z1 = []) ∨ ∃ x, a1 = some x ∧ len1 ≤ cap1 ∧ cap1 ≤ maxLen ∧ z1.length = cap1 ∧ (∀ i, i < z1.length → w.cell? (x.add i) = some (.int .u8 (z1.getD i 0))) ∧ ∀ n ∈ z1, (Lit.int .u8 n).wf = true) (y1 : len1 * 1 ≤ 140737488351232) (w2 : p.size ≤ maxLen) (w3 : i.size ≤ maxLen) {q : ByteArray → ByteArray} (hG : G q w) :
  Calls Tryd.prog 8 #[.slice a0 len0 cap0, .slice a1 len1 cap1, .string p, .string i, .bool b4, .bool b5] w fun e w' => e = .returned (.bool true) ∧ Below w.heap.size w w' := by
 obtain ⟨l0, rfl, hr0, hm0, hw0, hc0⟩ := ReadsInt.ofRowC w0
 obtain ⟨l1, rfl, hr1, hm1, hw1, hc1⟩ := ReadsInt.ofRowC w1
 exact indentLaw ⟨Kd.C_of_reads (d := (0 : Int)) (h1 := fun _ => rfl) hr0, hc0, Kd.C_of_reads (d := (0 : Int)) (h1 := fun _ => rfl) hr1, hc1, (fun x hx => by have := bytes_of l1 hw1 x hx; omega), hG, hm0, hm1⟩ w2 w3
end Go.Proofs.YtbikiibpjdiaaaaDoor.Err
