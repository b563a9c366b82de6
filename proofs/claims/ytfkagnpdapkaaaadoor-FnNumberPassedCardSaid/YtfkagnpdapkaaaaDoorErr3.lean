/- The syntax errors of numbers, words and texts. -/
import Derived.Test.YtfkagnpdapkaaaaDoorAuto
namespace Go.Proofs.YtfkagnpdapkaaaaDoor.Err
open Go.RowKit Go.Proofs.YtfkagnpdapkaaaaDoorW.PrintWords Go.Proofs.YtfkagnpdapkaaaaDoorW.PrintLast Go.Proofs.YtfkagnpdapkaaaaDoorW.PrintMore
set_option linter.unusedVariables false
theorem blankWords {q : ByteArray → ByteArray} {w : World} (hG : G q w) (what : ByteArray) : wBlankEnd ++ what = badWords q 32 what := by
  have e : quoted q 32 = ⟨#[39, 32, 39]⟩ := by
    unfold quoted
    rw [if_neg (by decide), if_neg (by decide), hG.sp]
    rfl
  unfold badWords
  rw [e]
  rfl
set_option maxRecDepth 100000 in
theorem scalarEnd {q : ByteArray → ByteArray} (b : Value) (cur start : Int) (what : ByteArray) (w : World) (hG : G q w) (hw : what.size ≤ 10000) :
    Calls Tryd.prog 147 #[b, .int .i64 cur, .int .i64 start, .string what] w (Gives w ⟨badWords q 32 what, cur, true, 0⟩) := by
  rw [← blankWords hG what]
  clear hG
  go_enter Tryd.func147, Tryd.ntmps147
  go_wp2_with fail
  with_reducible refine (errSyntaxAtEnd _ _ _).mono ?_
  rintro e w1 ⟨g, rfl, hg, hp, hb⟩
  have HP := Aside0.mk hp
  have HB := Aside0.mk hb
  clear hp hb hg
  go_wp2
  go_ret
  exact ⟨_, rfl, ⟨g, rfl, HP.out⟩, HB.out⟩
/-- The fault of a byte in a number, a word or an escape. -/
def scalarF (q : ByteArray → ByteArray) (L : List Int) (cur : Int) (what : ByteArray) : SE :=
  if cur = (L.length : Int) - 1 then ⟨badWords q 32 what, cur, true, 0⟩ else ⟨badWords q (rd L cur) what, cur + 1, false, 0⟩
set_option maxHeartbeats 4000000 in
theorem numberError (q : ByteArray → ByteArray) (ad : Addr) (c : Nat) (L : List Int) (cur start k : Int) (w : World) (hG : G q w) (hB : Buf w ad c L) (h0 : 0 ≤ cur) (h1 : cur < L.length) :
    Calls Tryd.prog 145 #[.slice (some ad) L.length c, .int .i64 cur, .int .i64 start, .int .u8 k] w (Gives w (scalarF q L cur (whereWords k))) := by
  have hcall := isEnd ad c L cur w hB h0 h1
  have HB := Aside0.mk hB
  have HG := Aside0.mk hG
  clear hB hG
  by_cases hc : cur = (L.length : Int) - 1
  · have HF := Aside0.mk (show scalarF q L cur (whereWords k) = ⟨badWords q 32 (whereWords k), cur, true, 0⟩ by unfold scalarF; rw [if_pos hc])
    rw [decide_eq_true hc] at hcall
    have HC := Aside0.mk hcall
    clear hcall hc
    go_enter Tryd.func145, Tryd.ntmps145
    go_wp2_with fail
    with_reducible refine HC.out.mono ?_
    rintro e w1 ⟨rfl, ⟨n, rfl⟩⟩
    go_wp2_with fail
    with_reducible refine (text k _).mono ?_
    rintro e w2 ⟨rfl, ⟨m, rfl⟩⟩
    go_wp2_with fail
    with_reducible refine (scalarEnd _ cur start (whereWords k) _ (HG.out.drewN _) (Nat.le_trans (whereWords_size k) (by decide))).mono ?_
    rintro e w2 ⟨v, rfl, hv, hb⟩
    have HV := Aside0.mk hv
    have HB := Aside0.mk hb
    clear hv hb
    go_wp2
    go_ret
    rw [HF.out]
    exact ⟨_, rfl, HV.out, belowD HB.out⟩
  · have HF := Aside0.mk (show scalarF q L cur (whereWords k) = ⟨badWords q (rd L cur) (whereWords k), cur + 1, false, 0⟩ by unfold scalarF; rw [if_neg hc])
    rw [decide_eq_false hc] at hcall
    have HC := Aside0.mk hcall
    clear hcall hc
    go_enter Tryd.func145, Tryd.ntmps145
    go_wp2_with fail
    with_reducible refine HC.out.mono ?_
    rintro e w1 ⟨rfl, ⟨n, rfl⟩⟩
    go_wp2_with fail
    with_reducible refine (text k _).mono ?_
    rintro e w2 ⟨rfl, ⟨m, rfl⟩⟩
    go_wp2_with fail
    with_reducible refine (invalidCharacter q ad c L cur (whereWords k) _ (HG.out.drewN _) (HB.out.drewN _) h0 h1 (Nat.le_trans (whereWords_size k) (by decide))).mono ?_
    rintro e w3 ⟨g, rfl, hg, hp, hb⟩
    have HP := Aside0.mk hp
    have HB3 := Aside0.mk hb
    clear hp hb hg
    go_wp2
    go_ret
    rw [HF.out]
    exact ⟨_, rfl, ⟨g, rfl, HP.out⟩, belowD HB3.out⟩
/-- An escape's fault: behind the backslash, or in the four digits. -/
def escWhat (bs cur : Int) : ByteArray := if cur > bs + 1 then wHex else wEscape
set_option maxHeartbeats 4000000 in
theorem escapeError (q : ByteArray → ByteArray) (ad : Addr) (c : Nat) (L : List Int) (cur bs : Int) (w : World) (hG : G q w) (hB : Buf w ad c L) (h0 : 0 ≤ cur) (h1 : cur < L.length) (hb0 : 0 ≤ bs) (hb1 : bs < L.length) :
    Calls Tryd.prog 157 #[.slice (some ad) L.length c, .int .i64 bs, .int .i64 cur] w (Gives w (scalarF q L cur (escWhat bs cur))) := by
  have hcall := isEnd ad c L cur w hB h0 h1
  have hsm := hB.small
  have HB := Aside0.mk hB
  have HG := Aside0.mk hG
  clear hB hG
  have key : ∀ (what : ByteArray), what = wHex ∧ decide (bs + 1 < cur) = true ∨ what = wEscape ∧ decide (bs + 1 < cur) = false → Calls Tryd.prog 157 #[.slice (some ad) L.length c, .int .i64 bs, .int .i64 cur] w (Gives w (scalarF q L cur what)) := by
    intro what hwhat
    have hsz : what.size ≤ 10000 := by rcases hwhat with ⟨rfl, _⟩ | ⟨rfl, _⟩ <;> decide
    have hF : cur = (L.length : Int) - 1 → scalarF q L cur what = ⟨badWords q 32 what, cur, true, 0⟩ := fun hc => by unfold scalarF; rw [if_pos hc]
    have hF2 : ¬ (cur = (L.length : Int) - 1) → scalarF q L cur what = ⟨badWords q (rd L cur) what, cur + 1, false, 0⟩ := fun hc => by unfold scalarF; rw [if_neg hc]
    by_cases hc : cur = (L.length : Int) - 1
    · have HF := Aside0.mk (hF hc)
      rw [decide_eq_true hc] at hcall
      have HC := Aside0.mk hcall
      clear hcall hc hF hF2
      rcases hwhat with ⟨rfl, hd⟩ | ⟨rfl, hd⟩
      all_goals
        go_enter Tryd.func157, Tryd.ntmps157
        go_wp2_with fail
        with_reducible refine HC.out.mono ?_
        rintro e w1 ⟨rfl, ⟨n, rfl⟩⟩
        go_wp2_with fail
        with_reducible refine (scalarEnd _ cur bs _ _ (HG.out.drewN _) hsz).mono ?_
        rintro e w2 ⟨v, rfl, hv, hb⟩
        have HV := Aside0.mk hv
        have HB := Aside0.mk hb
        clear hv hb
        go_wp2
        go_ret
        rw [HF.out]
        exact ⟨_, rfl, HV.out, belowD HB.out⟩
    · have HF := Aside0.mk (hF2 hc)
      rw [decide_eq_false hc] at hcall
      have HC := Aside0.mk hcall
      clear hcall hc hF hF2
      rcases hwhat with ⟨rfl, hd⟩ | ⟨rfl, hd⟩
      all_goals
        go_enter Tryd.func157, Tryd.ntmps157
        go_wp2_with fail
        with_reducible refine HC.out.mono ?_
        rintro e w1 ⟨rfl, ⟨n, rfl⟩⟩
        go_wp2_with fail
        with_reducible refine (invalidCharacter q ad c L cur _ _ (HG.out.drewN _) (HB.out.drewN _) h0 h1 hsz).mono ?_
        rintro e w3 ⟨g, rfl, hg, hp, hb⟩
        have HP := Aside0.mk hp
        have HB3 := Aside0.mk hb
        clear hp hb hg
        go_wp2
        go_ret
        rw [HF.out]
        exact ⟨_, rfl, ⟨g, rfl, HP.out⟩, belowD HB3.out⟩
  unfold escWhat
  by_cases h : cur > bs + 1
  · rw [if_pos h]
    exact key _ (.inl ⟨rfl, decide_eq_true h⟩)
  · rw [if_neg h]
    exact key _ (.inr ⟨rfl, decide_eq_false h⟩)
end Go.Proofs.YtfkagnpdapkaaaaDoor.Err
