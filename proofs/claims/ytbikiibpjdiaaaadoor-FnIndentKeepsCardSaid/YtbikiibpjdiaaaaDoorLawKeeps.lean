/- FnIndentKeeps: what is indented by white space is indented again to itself, and made compact to what the value itself is made compact to. -/
import Derived.Test.YtbikiibpjdiaaaaDoorFL
import Derived.Test.YtbikiibpjdiaaaaDoorRelD
import Derived.Test.YtbikiibpjdiaaaaDoorIndO
namespace Go.Proofs.YtbikiibpjdiaaaaDoor.Err
open Go.RowKit Go.Proofs.YtbikiibpjdiaaaaDoorW.PrintWords Go.Proofs.YtbikiibpjdiaaaaDoorW.PrintLast Go.Proofs.YtbikiibpjdiaaaaDoorW.PrintMore
open Go.Proofs.YtbikiibpjdiaaaaDoor.Dig Go.Proofs.YtbikiibpjdiaaaaDoor.Tab Go.Proofs.YtbikiibpjdiaaaaDoor.QF Go.Proofs.YtbikiibpjdiaaaaDoor.QM
set_option linter.unusedVariables false
section
variable {q : ByteArray → ByteArray} {w : World} {A A0 A1 : Option Addr} {c0 c1 n0 g : Nat} {xs l T T2 : List Int} {esc : Bool} {e : Int} {s : ByteArray}
/-- Bytes of which the pass is known, made compact. -/
theorem compactOf (hM : Txt (T ++ [0])) (hb : ∀ y, y ∈ T → 0 ≤ y ∧ y < 256) (hn : T.length ≤ 70000000) (hf : fj (T ++ [0]) esc none = some (e, T2)) (k : Nat) (hk : T.length ≤ k) (hC : Kd.C (Kd.int .u8) w A T.length T) (hG : Glob w) :
  Calls Tryd.prog 11 #[.slice none 0 0, .slice A T.length k, .bool esc] w (ImplAns w [] (some T2)) := by
 refine implCompact (xs := []) (l := T) ⟨nil_C w, Nat.le_refl _, by decide, hC, hk, hn, hb, hG⟩ fun N W v A c hd hne => ?_
 have := appendCompactG (esc := esc) hd hne (fun hg => by
  rw [hf, ← good_cw (esc := esc) hg, fj_cw hM hf]
  rfl)
 rw [hf] at this
 exact this
theorem ti_of (h : fj (l ++ [0]) false (some ([], sb s)) = some (e, T)) : ti l false false ⟨#[]⟩ s = some T := by
 show (fj (l ++ [0]) false (some ([], sb s))).map _ = _
 rw [h]
 simp
/-- Bytes of which the pass is known, indented. -/
theorem indentOf (hs : Spaces s) (hb : ∀ y, y ∈ T → 0 ≤ y ∧ y < 256) (hn : T.length ≤ 70000000) (hf : fj (T ++ [0]) false (some ([], sb s)) = some (e, T2)) (k : Nat) (hk : T.length ≤ k) (hC : Kd.C (Kd.int .u8) w A T.length T) (hG : Glob w) :
  Calls Tryd.prog 23 #[.slice none 0 0, .slice A T.length k, .string ⟨#[]⟩, .string s, .bool false, .bool false] w (ImplAns w [] (some T2)) := by
 have := implIndent (xs := []) (l := T) (esc := false) (tr := false) (p := ⟨#[]⟩) (i := s) ⟨nil_C w, Nat.le_refl _, by decide, hC, hk, hn, hb, hG⟩ (by decide) hs.len
 rw [ti_of hf] at this
 exact this
set_option maxRecDepth 100000 in
set_option maxHeartbeats 16000000 in
theorem keepsLaw (h : LawIn q w none 0 [] A1 c1 l) (st : Int) : Calls Tryd.prog 9 #[.slice A1 l.length c1, .int .i64 st] w fun e w' => e = .returned (.bool true) ∧ Below w.heap.size w w' := by
 have hm1 := h.m1
 unfold maxLen at hm1
 have HH := Aside0.mk h
 clear h
 by_cases z1 : (l.length : Int) > 2147483647
 ·have b1 : decide ((2147483647 : Int) < (l.length : Int)) = true := decide_eq_true z1
  go_enter Tryd.func9, Tryd.ntmps9
  go_wp2_with fail
  go_ret
  exact ⟨rfl, Below.refl _ _⟩
 have b1 : decide ((2147483647 : Int) < (l.length : Int)) = false := decide_eq_false z1
 by_cases z2 : st < 0
 ·have b2 : decide (st < 0) = true := decide_eq_true z2
  go_enter Tryd.func9, Tryd.ntmps9
  go_wp2_with fail
  go_ret
  exact ⟨rfl, Below.refl _ _⟩
 have b2 : decide (st < 0) = false := decide_eq_false z2
 by_cases z3 : 8 < st
 ·have b3 : decide (8 < st) = true := decide_eq_true z3
  go_enter Tryd.func9, Tryd.ntmps9
  go_wp2_with fail
  go_ret
  exact ⟨rfl, Below.refl _ _⟩
 have b3 : decide (8 < st) = false := decide_eq_false z3
 have HST : Aside0 (0 ≤ st ∧ st ≤ 8) := ⟨by omega⟩
 have HIO : Aside0 (Calls Tryd.prog 22 #[.slice none 0 0, .slice A1 l.length c1, .string ⟨#[]⟩, .string ⟨#[]⟩] w fun e w' => (∃ b : Bool, e = .returned (.bool b) ∧ (b = true → Bnd q [] l ⟨#[]⟩ ⟨#[]⟩)) ∧ Below w.heap.size w w') :=
  ⟨indentOk (xs := []) HH.out (by decide) (by decide) (by decide) (by omega)⟩
 clear hm1 z1 z2 z3
 go_enter Tryd.func9, Tryd.ntmps9
 go_wp2_with fail
 with_reducible refine HIO.out.mono ?_
 rintro e w1 ⟨⟨b, rfl, hbn⟩, hb1⟩
 have HB1 := Aside0.mk hb1
 have HBN := Aside0.mk hbn
 clear hb1 hbn
 obtain _ | _ := b
 ·go_wp2_with fail
  go_ret
  exact ⟨rfl, HB1.out⟩
 have hl2 : l.length ≤ 2000 := by have := (HBN.out rfl).all; simp only [List.length_nil] at this; omega
 have HL2 := Aside0.mk hl2
 have HIV := Aside0.mk (isValue A1 c1 l w1 (HH.out.G.below HB1.out) (Kd.C_below HH.out.s1 HB1.out) HH.out.k1 HH.out.byt (by omega))
 clear hl2 HBN
 cases hff : ff q l .val [] 0 with
 | some p =>
  rw [hff] at HIV
  have HIV2 : Aside0 (Calls Tryd.prog 12 #[.slice A1 l.length c1] w1 fun e w' => e = .returned (.bool false) ∧ Below w1.heap.size w1 w') := HIV
  clear HIV hff
  go_wp2_with fail
  with_reducible refine HIV2.out.mono ?_
  rintro e w2 ⟨rfl, hb2⟩
  have HB2 := Aside0.mk (below_step HB1.out hb2)
  clear hb2
  go_wp2_with fail
  go_ret
  exact ⟨rfl, HB2.out⟩
 | none =>
  rw [hff] at HIV
  have HIV2 : Aside0 (Calls Tryd.prog 12 #[.slice A1 l.length c1] w1 fun e w' => e = .returned (.bool true) ∧ Below w1.heap.size w1 w') := HIV
  have HFF := Aside0.mk hff
  clear HIV hff
  go_wp2_with fail
  with_reducible refine HIV2.out.mono ?_
  rintro e w2 ⟨rfl, hb2⟩
  have HB2 := Aside0.mk (below_step HB1.out hb2)
  clear hb2
  go_upto_region 5 with (fail)
  go_cut [5] from 6 to 76 (fun v5 wx => ∃ s, v5 = .string s ∧ Aside0 (Spaces s) ∧ Aside0 (Below w.heap.size w wx))
  case first =>
   have hst : st = 0 ∨ st = 1 ∨ st = 2 ∨ st = 3 ∨ st = 4 ∨ st = 5 ∨ st = 6 ∨ st = 7 ∨ st = 8 := by have := HST.out; omega
   rcases hst with rfl | rfl | rfl | rfl | rfl | rfl | rfl | rfl | rfl
   all_goals
    go_wp2_with fail
    go_meet
    case rel => exact ⟨_, rfl, ⟨⟨by decide, by decide⟩⟩, HB2⟩
  case rest =>
   obtain ⟨s, rfl, HSP, HB⟩ := hcut
   clear HB2
   obtain ⟨e0, T, hT⟩ : ∃ e0 T, fj (l ++ [0]) false (some ([], sb s)) = some (e0, T) := by
    cases hf : fj (l ++ [0]) false (some ([], sb s)) with
    | none => exact absurd HFF.out ((fj_ff (q := q) HH.out.byt (by have := HL2.out; omega)).1 hf)
    | some p => exact ⟨p.1, p.2, rfl⟩
   obtain ⟨hM, hby, hn, hf1, e2, T2, hf2, hf3⟩ := fj_keep HSP.out HH.out.byt HL2.out hT
   have HI1 : Aside0 (∀ W, Below w.heap.size w W → Calls Tryd.prog 23 #[.slice none 0 0, .slice A1 l.length c1, .string ⟨#[]⟩, .string s, .bool false, .bool false] W (ImplAns W [] (some T))) := ⟨fun W hb => indentOf HSP.out HH.out.byt (by have := HL2.out; omega) hT c1 HH.out.k1 (Kd.C_below HH.out.s1 hb) (HH.out.G.tab.below hb)⟩
   have HI2 : Aside0 (∀ W A k, Below w.heap.size w W → T.length ≤ k → Kd.C (Kd.int .u8) W A T.length T → Calls Tryd.prog 23 #[.slice none 0 0, .slice A T.length k, .string ⟨#[]⟩, .string s, .bool false, .bool false] W (ImplAns W [] (some T))) := ⟨fun W A k hb hk hC => indentOf HSP.out hby hn hf1 k hk hC (HH.out.G.tab.below hb)⟩
   have HC1 : Aside0 (∀ W A k, Below w.heap.size w W → T.length ≤ k → Kd.C (Kd.int .u8) W A T.length T → Calls Tryd.prog 11 #[.slice none 0 0, .slice A T.length k, .bool false] W (ImplAns W [] (some T2))) := ⟨fun W A k hb hk hC => compactOf hM hby hn hf3 k hk hC (HH.out.G.tab.below hb)⟩
   have HC2 : Aside0 (∀ W, Below w.heap.size w W → Calls Tryd.prog 11 #[.slice none 0 0, .slice A1 l.length c1, .bool false] W (ImplAns W [] (some T2))) := ⟨fun W hb => compactOf (txt_of HH.out.byt (by have := HL2.out; omega)) HH.out.byt (by have := HL2.out; omega) hf2 c1 HH.out.k1 (Kd.C_below HH.out.s1 hb) (HH.out.G.tab.below hb)⟩
   have HSA : Aside0 (∀ (T : List Int) W B k C n, T.length ≤ k → T.length ≤ n → Kd.C (Kd.int .u8) W B T.length T → Kd.C (Kd.int .u8) W C T.length T → Calls Tryd.prog 16 #[.slice B T.length k, .slice C T.length n] W fun e w' => e = .returned (.bool true) ∧ Drawn0 W w') := ⟨fun T W B k C n hk hn h1 h2 => spec_Same.calls B k T C n T true W h1 hk h2 hn (by unfold spec_Same.f; simp)⟩
   clear hT hM hby hn hf1 hf2 hf3 b1 b2 b3
   go_wp2_with fail
   with_reducible refine (HI1.out _ HB.out).mono ?_
   rintro e w3 ⟨A3, k3, rfl, hk3, hc3, hb3⟩
   rw [List.nil_append] at hk3 hc3 ⊢
   have HB3 := Aside0.mk (below_step HB.out hb3)
   have HC3 := Aside0.mk (And.intro hk3 hc3)
   clear hb3 hk3 hc3
   go_wp2_with fail
   with_reducible refine (HI2.out _ A3 k3 HB3.out HC3.out.1 HC3.out.2).mono ?_
   rintro e w4 ⟨A4, k4, rfl, hk4, hc4, hb4⟩
   rw [List.nil_append] at hk4 hc4 ⊢
   have HB4 := Aside0.mk (below_step HB3.out hb4)
   have HC34 := Aside0.mk (Kd.C_below HC3.out.2 hb4)
   have HC4 := Aside0.mk (And.intro hk4 hc4)
   clear hb4 hk4 hc4
   go_wp2_with fail
   with_reducible refine (HC1.out _ A3 k3 HB4.out HC3.out.1 HC34.out).mono ?_
   rintro e w5 ⟨A5, k5, rfl, hk5, hc5, hb5⟩
   rw [List.nil_append] at hk5 hc5 ⊢
   have HB5 := Aside0.mk (below_step HB4.out hb5)
   have HC35 := Aside0.mk (Kd.C_below HC34.out hb5)
   have HC45 := Aside0.mk (Kd.C_below HC4.out.2 hb5)
   have HC5 := Aside0.mk (And.intro hk5 hc5)
   clear hb5 hk5 hc5
   go_wp2_with fail
   with_reducible refine (HC2.out _ HB5.out).mono ?_
   rintro e w6 ⟨A6, k6, rfl, hk6, hc6, hb6⟩
   rw [List.nil_append] at hk6 hc6 ⊢
   have HB6 := Aside0.mk (below_step HB5.out hb6)
   have HS1 := Aside0.mk (HSA.out T w6 A4 k4 A3 k3 HC4.out.1 HC3.out.1 (Kd.C_below HC45.out hb6) (Kd.C_below HC35.out hb6))
   have HS2 : Aside0 (∀ W, Below w6.heap.size w6 W → Calls Tryd.prog 16 #[.slice A5 T2.length k5, .slice A6 T2.length k6] W fun e w' => e = .returned (.bool true) ∧ Drawn0 W w') := ⟨fun W hb => HSA.out T2 W A5 k5 A6 k6 HC5.out.1 hk6 (Kd.C_below (Kd.C_below HC5.out.2 hb6) hb) (Kd.C_below hc6 hb)⟩
   clear hb6 hk6 hc6
   go_wp2_with fail
   with_reducible refine HS1.out.mono ?_
   rintro e w7 ⟨rfl, hd7⟩
   have HB7 := Aside0.mk (below_step HB6.out hd7.below)
   have HB67 := Aside0.mk hd7.below
   clear hd7
   go_wp2_with fail
   with_reducible refine (HS2.out _ HB67.out).mono ?_
   rintro e w8 ⟨rfl, hd8⟩
   have HB8 := Aside0.mk (below_step HB7.out hd8.below)
   clear hd8
   go_wp2_with fail
   go_ret
   exact ⟨rfl, HB8.out⟩
end
theorem keeps_walk (a0 : Option Addr) (len0 cap0 : Nat) (z0 : List Int) (b1 : Int) (w : World) (w0 : (a0 = none ∧ len0 = 0 ∧ cap0 = 0 ∧ z0 = []) ∨ ∃ x, a0 = some x ∧ len0 ≤ cap0 ∧ cap0 ≤ maxLen ∧ z0.length = cap0 ∧ (∀ i, i < z0.length → w.cell? (x.add i) = some (.int .u8 (z0.getD i 0))) ∧ ∀ n ∈ z0, (Lit.int .u8 n).wf = true) (y0 : len0 * 1 ≤ 140737488351232) (w1 : (Lit.int .i64 b1).wf = true) {q : ByteArray → ByteArray} (hG : G q w) :
  Calls Tryd.prog 9 #[.slice a0 len0 cap0, .int .i64 b1] w fun e w' => e = .returned (.bool true) ∧ Below w.heap.size w w' := by
 obtain ⟨l0, rfl, hr0, hm0, hw0, hc0⟩ := ReadsInt.ofRowC w0
 exact keepsLaw ⟨nil_C w, Nat.le_refl _, Kd.C_of_reads (d := (0 : Int)) (h1 := fun _ => rfl) hr0, hc0, (fun x hx => by have := bytes_of l0 hw0 x hx; omega), hG, by decide, hm0⟩ b1
end Go.Proofs.YtbikiibpjdiaaaaDoor.Err
