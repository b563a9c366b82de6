/- The package's syntax errors at a place of a text. -/
import Derived.Test.YtfkagnpdapkaaaaDoorErr
namespace Go.Proofs.YtfkagnpdapkaaaaDoor.Err
open Go.RowKit Go.Proofs.YtfkagnpdapkaaaaDoorW.PrintWords Go.Proofs.YtfkagnpdapkaaaaDoorW.PrintLast Go.Proofs.YtfkagnpdapkaaaaDoorW.PrintMore
open Go.Proofs.YtfkagnpdapkaaaaDoor.Tab
set_option linter.unusedVariables false
abbrev wValue : ByteArray := ⟨#[108, 111, 111, 107, 105, 110, 103, 32, 102, 111, 114, 32, 98, 101, 103, 105, 110, 110, 105, 110, 103, 32, 111, 102, 32, 118, 97, 108, 117, 101]⟩
abbrev wKey : ByteArray := ⟨#[108, 111, 111, 107, 105, 110, 103, 32, 102, 111, 114, 32, 98, 101, 103, 105, 110, 110, 105, 110, 103, 32, 111, 102, 32, 111, 98, 106, 101, 99, 116, 32, 107, 101, 121, 32, 115, 116, 114, 105, 110, 103]⟩
abbrev wAfterKey : ByteArray := ⟨#[97, 102, 116, 101, 114, 32, 111, 98, 106, 101, 99, 116, 32, 107, 101, 121]⟩
abbrev wAfterPair : ByteArray := ⟨#[97, 102, 116, 101, 114, 32, 111, 98, 106, 101, 99, 116, 32, 107, 101, 121, 58, 118, 97, 108, 117, 101, 32, 112, 97, 105, 114]⟩
abbrev wAfterElement : ByteArray := ⟨#[97, 102, 116, 101, 114, 32, 97, 114, 114, 97, 121, 32, 101, 108, 101, 109, 101, 110, 116]⟩
abbrev wAfterTop : ByteArray := ⟨#[97, 102, 116, 101, 114, 32, 116, 111, 112, 45, 108, 101, 118, 101, 108, 32, 118, 97, 108, 117, 101]⟩
abbrev wString : ByteArray := ⟨#[105, 110, 32, 115, 116, 114, 105, 110, 103, 32, 108, 105, 116, 101, 114, 97, 108]⟩
abbrev wNumber : ByteArray := ⟨#[105, 110, 32, 110, 117, 109, 101, 114, 105, 99, 32, 108, 105, 116, 101, 114, 97, 108]⟩
abbrev wFraction : ByteArray := ⟨#[97, 102, 116, 101, 114, 32, 100, 101, 99, 105, 109, 97, 108, 32, 112, 111, 105, 110, 116, 32, 105, 110, 32, 110, 117, 109, 101, 114, 105, 99, 32, 108, 105, 116, 101, 114, 97, 108]⟩
abbrev wExponent : ByteArray := ⟨#[105, 110, 32, 101, 120, 112, 111, 110, 101, 110, 116, 32, 111, 102, 32, 110, 117, 109, 101, 114, 105, 99, 32, 108, 105, 116, 101, 114, 97, 108]⟩
abbrev wEscape : ByteArray := ⟨#[105, 110, 32, 115, 116, 114, 105, 110, 103, 32, 101, 115, 99, 97, 112, 101, 32, 99, 111, 100, 101]⟩
abbrev wHex : ByteArray := ⟨#[105, 110, 32, 92, 117, 32, 104, 101, 120, 97, 100, 101, 99, 105, 109, 97, 108, 32, 99, 104, 97, 114, 97, 99, 116, 101, 114, 32, 101, 115, 99, 97, 112, 101]⟩
abbrev wInvalid : ByteArray := ⟨#[105, 110, 118, 97, 108, 105, 100, 32, 99, 104, 97, 114, 97, 99, 116, 101, 114, 32]⟩
abbrev wBlank : ByteArray := ⟨#[32]⟩
abbrev wBlankEnd : ByteArray := ⟨#[105, 110, 118, 97, 108, 105, 100, 32, 99, 104, 97, 114, 97, 99, 116, 101, 114, 32, 39, 32, 39, 32]⟩
abbrev wLit : ByteArray := ⟨#[105, 110, 32, 108, 105, 116, 101, 114, 97, 108, 32]⟩
abbrev wExp : ByteArray := ⟨#[32, 40, 101, 120, 112, 101, 99, 116, 105, 110, 103, 32]⟩
abbrev wClose : ByteArray := ⟨#[41]⟩
/-- The words that tell where a byte cannot stand. -/
def whereWords (k : Int) : ByteArray :=
  if k = 1 then wKey else if k = 2 then wAfterKey else if k = 3 then wAfterPair else if k = 4 then wAfterElement else if k = 5 then wAfterTop else if k = 6 then wString else if k = 7 then wNumber else if k = 8 then wFraction else if k = 9 then wExponent else wValue
theorem whereWords_size (k : Int) : (whereWords k).size ≤ 100 := by
  unfold whereWords
  repeat' split
  all_goals decide
theorem text (k : Int) (w : World) : Calls Tryd.prog 135 #[.int .u8 k] w fun e w' => e = .returned (.string (whereWords k)) ∧ Drawn0 w w' := by
  by_cases c1 : k = 1
  · subst c1
    go_enter Tryd.func135, Tryd.ntmps135
    go_wp2
    go_ret
    exact ⟨rfl, by repeat (first | exact Drawn0.refl _ | apply Drawn0.step)⟩
  have d1 : (k == 1) = false := beq_eq_false_iff_ne.mpr c1
  by_cases c2 : k = 2
  · subst c2
    go_enter Tryd.func135, Tryd.ntmps135
    go_wp2
    go_ret
    exact ⟨rfl, by repeat (first | exact Drawn0.refl _ | apply Drawn0.step)⟩
  have d2 : (k == 2) = false := beq_eq_false_iff_ne.mpr c2
  by_cases c3 : k = 3
  · subst c3
    go_enter Tryd.func135, Tryd.ntmps135
    go_wp2
    go_ret
    exact ⟨rfl, by repeat (first | exact Drawn0.refl _ | apply Drawn0.step)⟩
  have d3 : (k == 3) = false := beq_eq_false_iff_ne.mpr c3
  by_cases c4 : k = 4
  · subst c4
    go_enter Tryd.func135, Tryd.ntmps135
    go_wp2
    go_ret
    exact ⟨rfl, by repeat (first | exact Drawn0.refl _ | apply Drawn0.step)⟩
  have d4 : (k == 4) = false := beq_eq_false_iff_ne.mpr c4
  by_cases c5 : k = 5
  · subst c5
    go_enter Tryd.func135, Tryd.ntmps135
    go_wp2
    go_ret
    exact ⟨rfl, by repeat (first | exact Drawn0.refl _ | apply Drawn0.step)⟩
  have d5 : (k == 5) = false := beq_eq_false_iff_ne.mpr c5
  by_cases c6 : k = 6
  · subst c6
    go_enter Tryd.func135, Tryd.ntmps135
    go_wp2
    go_ret
    exact ⟨rfl, by repeat (first | exact Drawn0.refl _ | apply Drawn0.step)⟩
  have d6 : (k == 6) = false := beq_eq_false_iff_ne.mpr c6
  by_cases c7 : k = 7
  · subst c7
    go_enter Tryd.func135, Tryd.ntmps135
    go_wp2
    go_ret
    exact ⟨rfl, by repeat (first | exact Drawn0.refl _ | apply Drawn0.step)⟩
  have d7 : (k == 7) = false := beq_eq_false_iff_ne.mpr c7
  by_cases c8 : k = 8
  · subst c8
    go_enter Tryd.func135, Tryd.ntmps135
    go_wp2
    go_ret
    exact ⟨rfl, by repeat (first | exact Drawn0.refl _ | apply Drawn0.step)⟩
  have d8 : (k == 8) = false := beq_eq_false_iff_ne.mpr c8
  by_cases c9 : k = 9
  · subst c9
    go_enter Tryd.func135, Tryd.ntmps135
    go_wp2
    go_ret
    exact ⟨rfl, by repeat (first | exact Drawn0.refl _ | apply Drawn0.step)⟩
  have d9 : (k == 9) = false := beq_eq_false_iff_ne.mpr c9
  go_enter Tryd.func135, Tryd.ntmps135
  go_wp2
  go_ret
  refine ⟨?_, by repeat (first | exact Drawn0.refl _ | apply Drawn0.step)⟩
  unfold whereWords
  rw [if_neg c1, if_neg c2, if_neg c3, if_neg c4, if_neg c5, if_neg c6, if_neg c7, if_neg c8, if_neg c9]
  rfl
/-- The words of a byte that cannot stand somewhere. -/
def badWords (q : ByteArray → ByteArray) (c : Int) (what : ByteArray) : ByteArray := wInvalid ++ quoted q c ++ wBlank ++ what
set_option maxRecDepth 100000 in
set_option maxHeartbeats 4000000 in
theorem invalidCharacter (q : ByteArray → ByteArray) (ad : Addr) (c : Nat) (L : List Int) (cur : Int) (what : ByteArray) (w : World) (hG : G q w) (hB : Buf w ad c L) (h0 : 0 ≤ cur) (h1 : cur < L.length) (hw : what.size ≤ 10000) :
    Calls Tryd.prog 134 #[.slice (some ad) L.length c, .int .i64 cur, .string what] w (GivesP w ⟨badWords q (rd L cur) what, cur + 1, false, 0⟩) := by
  have hx := hB.at_ cur h0 h1
  have hby := hB.byte cur h0 h1
  have hs := quoted_size q (rd L cur) w hG hby.1 hby.2
  have hcall := quoteChar q (rd L cur) w hG hby.1 hby.2
  have hsm := hB.small
  have HB := Aside0.mk hB
  have HC := Aside0.mk hcall
  clear hB hcall hby
  go_enter Tryd.func134, Tryd.ntmps134
  go_wp2_with fail
  refine HC.out.mono ?_
  rintro e w1 ⟨rfl, hb1⟩
  have HB1 := Aside0.mk hb1
  clear hb1 hx HC
  go_wp2_with fail
  refine (errSyntax _ _ _).mono ?_
  rintro e w2 ⟨g, rfl, hg, hp, hb2⟩
  have HP := Aside0.mk hp
  have HB2 := Aside0.mk hb2
  clear hp hb2
  go_wp2
  go_ret
  exact ⟨g, rfl, Nat.le_trans HB1.out.size hg, HP.out, below_step HB1.out HB2.out⟩
theorem withValueStartAt (g : Nat) (s : SE) (cur : Int) (w0 w : World) (h0 : 0 ≤ cur) (h1 : cur < 20000) (hb : Below w0.heap.size w0 w) (hg : w0.heap.size ≤ g) (hp : PT w g s) :
    Calls Tryd.prog 136 #[.pointer (some ⟨g, 0, none⟩), .int .i64 cur] w (GivesP w0 { s with va := cur + 1 }) := by
  have hc : w.cell? ⟨g, 3, none⟩ = some (.int .i64 s.va) := by unfold PT at hp; simp [World.cell?, hp]
  have hf : w.frozen? ⟨g, 3, none⟩ = false := by unfold PT at hp; simp [World.frozen?, hp]
  have HP := Aside0.mk hp
  have HB := Aside0.mk hb
  have HG := Aside0.mk hg
  clear hp hb hg
  go_enter Tryd.func136, Tryd.ntmps136
  go_wp2
  go_ret
  refine ⟨g, rfl, HG.out, ?_, below_set HB.out HG.out⟩
  have hp := HP.out
  unfold PT at hp ⊢
  simp [World.setCell, Array.getElem?_modify, hp]
theorem isEnd (ad : Addr) (c : Nat) (L : List Int) (cur : Int) (w : World) (hB : Buf w ad c L) (h0 : 0 ≤ cur) (h1 : cur < L.length) :
    Calls Tryd.prog 132 #[.slice (some ad) L.length c, .int .i64 cur] w fun e w' => e = .returned (.bool (decide (cur = (L.length : Int) - 1))) ∧ Drawn0 w w' := by
  have hx := hB.at_ cur h0 h1
  have hl := hB.last
  have hsm := hB.small
  have hps := hB.pos
  clear hB
  by_cases hc : cur = (L.length : Int) - 1
  · have e : decide (cur = (L.length : Int) - 1) = true := decide_eq_true hc
    rw [e]
    have f : (cur == (L.length : Int) - 1) = true := beq_iff_eq.mpr hc
    rw [← hc] at hl
    rw [hl] at hx
    clear hc e hl
    go_enter Tryd.func132, Tryd.ntmps132
    go_wp2
    go_ret
    exact ⟨rfl, by repeat (first | exact Drawn0.refl _ | apply Drawn0.step)⟩
  · have e : decide (cur = (L.length : Int) - 1) = false := decide_eq_false hc
    rw [e]
    have f : (cur == (L.length : Int) - 1) = false := beq_eq_false_iff_ne.mpr hc
    go_enter Tryd.func132, Tryd.ntmps132
    go_wp2
    go_ret
    exact ⟨rfl, by repeat (first | exact Drawn0.refl _ | apply Drawn0.step)⟩
/-- The fault of a byte, or of the end, at a place. -/
def faultAt (q : ByteArray → ByteArray) (L : List Int) (cur k : Int) : SE :=
  if cur = (L.length : Int) - 1 then ⟨endWords, cur, true, 0⟩ else ⟨badWords q (rd L cur) (whereWords k), cur + 1, false, if k = 0 then cur + 1 else 0⟩
set_option maxRecDepth 100000 in
set_option maxHeartbeats 4000000 in
theorem syntaxErrorAt (q : ByteArray → ByteArray) (ad : Addr) (c : Nat) (L : List Int) (cur k : Int) (w : World) (hG : G q w) (hB : Buf w ad c L) (h0 : 0 ≤ cur) (h1 : cur < L.length) :
    Calls Tryd.prog 90 #[.slice (some ad) L.length c, .int .i64 cur, .int .u8 k] w (Gives w (faultAt q L cur k)) := by
  have hsm := hB.small
  have hcall := isEnd ad c L cur w hB h0 h1
  have HB := Aside0.mk hB
  have HG := Aside0.mk hG
  clear hB hG
  by_cases hc : cur = (L.length : Int) - 1
  · have HF := Aside0.mk (show faultAt q L cur k = ⟨endWords, cur, true, 0⟩ by unfold faultAt; rw [if_pos hc])
    rw [decide_eq_true hc] at hcall
    have HC := Aside0.mk hcall
    clear hcall hc
    go_enter Tryd.func90, Tryd.ntmps90
    go_wp2_with fail
    with_reducible refine HC.out.mono ?_
    rintro e w1 ⟨rfl, ⟨n, rfl⟩⟩
    go_wp2_with fail
    with_reducible refine (endError cur _).mono ?_
    rintro e w2 ⟨v, rfl, hv, hb⟩
    have HV := Aside0.mk hv
    have HB := Aside0.mk hb
    clear hv hb
    go_wp2
    go_ret
    rw [HF.out]
    exact ⟨_, rfl, HV.out, belowD HB.out⟩
  · have HF := Aside0.mk (show faultAt q L cur k = ⟨badWords q (rd L cur) (whereWords k), cur + 1, false, if k = 0 then cur + 1 else 0⟩ by unfold faultAt; rw [if_neg hc])
    rw [decide_eq_false hc] at hcall
    have HC := Aside0.mk hcall
    clear hcall hc
    go_enter Tryd.func90, Tryd.ntmps90
    go_wp2_with fail
    with_reducible refine HC.out.mono ?_
    rintro e w1 ⟨rfl, ⟨n, rfl⟩⟩
    go_wp2_with fail
    with_reducible refine (text k _).mono ?_
    rintro e w2 ⟨rfl, ⟨m, rfl⟩⟩
    go_wp2_with fail
    with_reducible refine (invalidCharacter q ad c L cur (whereWords k) _ (HG.out.drewN _) (HB.out.drewN _) h0 h1 (Nat.le_trans (whereWords_size k) (by decide))).mono ?_
    rintro e w3 ⟨g, rfl, hg, hp, hb⟩
    have HP := Aside0.mk hp
    have HB3 := Aside0.mk (belowD hb)
    have HG3 := Aside0.mk (show w.heap.size ≤ g from hg)
    clear hp hb hg
    by_cases hk : k = 0
    · have f : (k == 0) = true := beq_iff_eq.mpr hk
      have HF2 := Aside0.mk (HF.out.trans (by rw [if_pos hk]))
      clear hk HF
      go_wp2_with fail
      with_reducible refine (withValueStartAt g ⟨badWords q (rd L cur) (whereWords k), cur + 1, false, 0⟩ cur w w3 h0 (by omega) HB3.out HG3.out HP.out).mono ?_
      rintro e w4 ⟨g, rfl, hg, hp, hb⟩
      have HP := Aside0.mk hp
      have HB4 := Aside0.mk hb
      clear hp hb hg
      go_wp2
      go_ret
      rw [HF2.out]
      exact ⟨_, rfl, ⟨g, rfl, HP.out⟩, HB4.out⟩
    · have f : (k == 0) = false := beq_eq_false_iff_ne.mpr hk
      have HF2 := Aside0.mk (HF.out.trans (by rw [if_neg hk]))
      clear hk HF
      go_wp2
      go_ret
      rw [HF2.out]
      exact ⟨_, rfl, ⟨g, rfl, HP.out⟩, HB3.out⟩
end Go.Proofs.YtfkagnpdapkaaaaDoor.Err
