/- The laws' bounds of what is indented. -/
import Derived.Test.YtbikiibpjdiaaaaDoorFJ
namespace Go.Proofs.YtbikiibpjdiaaaaDoor.Err
open Go.RowKit Go.Proofs.YtbikiibpjdiaaaaDoorW.PrintWords Go.Proofs.YtbikiibpjdiaaaaDoorW.PrintLast Go.Proofs.YtbikiibpjdiaaaaDoorW.PrintMore
open Go.Proofs.YtbikiibpjdiaaaaDoor.Dig Go.Proofs.YtbikiibpjdiaaaaDoor.Tab Go.Proofs.YtbikiibpjdiaaaaDoor.QF Go.Proofs.YtbikiibpjdiaaaaDoor.QM
set_option linter.unusedVariables false
section
variable {q : ByteArray → ByteArray} {w : World} {A0 A1 : Option Addr} {c0 c1 : Nat} {xs l : List Int} {esc tr : Bool} {p i : ByteArray}
/-- The bounds of what is indented. -/
structure Bnd (q : ByteArray → ByteArray) (xs l : List Int) (p i : ByteArray) : Prop where
 all : xs.length + l.length ≤ 2000
 pre : p.size ≤ 8
 ind : i.size ≤ 8
 deep : dp q l .val [] 0 ≤ 60
set_option maxRecDepth 100000 in
set_option maxHeartbeats 16000000 in
theorem indentOk (h : LawIn q w A0 c0 xs A1 c1 l) (hp : p.size ≤ maxLen) (hi : i.size ≤ maxLen) (hs0 : xs.length ≤ 2147483647) (hs1 : l.length ≤ 2147483647) : Calls Tryd.prog 22 #[.slice A0 xs.length c0, .slice A1 l.length c1, .string p, .string i] w fun e w' => (∃ b : Bool, e = .returned (.bool b) ∧ (b = true → Bnd q xs l p i)) ∧ Below w.heap.size w w' := by
 have hm0 := h.m0
 have hm1 := h.m1
 unfold maxLen at hm0 hm1 hp hi
 have es : wrap64 ((xs.length : Int) + (l.length : Int)) = ((xs.length + l.length : Nat) : Int) := by unfold wrap64; omega
 obtain ⟨S, hS⟩ : ∃ S : Int, S = ((xs.length + l.length : Nat) : Int) := ⟨_, rfl⟩
 rw [← hS] at es
 have HS := Aside0.mk hS
 have HH := Aside0.mk h
 clear h
 by_cases z0 : S ≤ 2000
 case neg =>
  have b0 : decide (S ≤ 2000) = false := decide_eq_false z0
  clear hS z0 hm0 hm1 hp hi hs0 hs1
  go_enter Tryd.func22, Tryd.ntmps22
  go_wp2_with fail
  go_ret
  exact ⟨⟨false, rfl, fun e => by cases e⟩, Below.refl _ _⟩
 have b0 : decide (S ≤ 2000) = true := decide_eq_true z0
 by_cases z1 : (p.size : Int) ≤ 8
 case neg =>
  have b1 : decide ((p.size : Int) ≤ 8) = false := decide_eq_false z1
  clear hS z0 z1 hm0 hm1 hp hi hs0 hs1
  go_enter Tryd.func22, Tryd.ntmps22
  go_wp2_with fail
  go_ret
  exact ⟨⟨false, rfl, fun e => by cases e⟩, Below.refl _ _⟩
 have b1 : decide ((p.size : Int) ≤ 8) = true := decide_eq_true z1
 by_cases z2 : (i.size : Int) ≤ 8
 case neg =>
  have b2 : decide ((i.size : Int) ≤ 8) = false := decide_eq_false z2
  clear hS z0 z1 z2 hm0 hm1 hp hi hs0 hs1
  go_enter Tryd.func22, Tryd.ntmps22
  go_wp2_with fail
  go_ret
  exact ⟨⟨false, rfl, fun e => by cases e⟩, Below.refl _ _⟩
 have b2 : decide ((i.size : Int) ≤ 8) = true := decide_eq_true z2
 have HD := Aside0.mk (depth A1 c1 l w HH.out.G HH.out.s1 HH.out.k1 HH.out.byt (by omega))
 obtain ⟨D, hD⟩ : ∃ D, D = dp q l .val [] 0 := ⟨_, rfl⟩
 rw [← hD] at HD
 have HDD := Aside0.mk hD
 have HZ := Aside0.mk (And.intro z0 (And.intro z1 z2))
 clear hS z0 z1 z2 hm0 hm1 hp hi hs0 hs1 hD
 go_enter Tryd.func22, Tryd.ntmps22
 go_wp2_with fail
 with_reducible refine HD.out.mono ?_
 rintro e w1 ⟨rfl, hb1⟩
 have HB1 := Aside0.mk hb1
 clear hb1
 go_wp2_with fail
 go_ret
 exact ⟨⟨_, rfl, fun e => ⟨by have := HZ.out.1; have := HS.out; omega, by have := HZ.out.2.1; omega, by have := HZ.out.2.2; omega, by rw [← HDD.out]; exact of_decide_eq_true e⟩⟩, HB1.out⟩
end
end Go.Proofs.YtbikiibpjdiaaaaDoor.Err
