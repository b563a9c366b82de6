/- What the package's small functions answer, in the scanner's words. -/
import Derived.Test.YtfkagnpdapkaaaaDoorQF1
import Derived.Test.YtfkagnpdapkaaaaDoorOutT
namespace Go.Proofs.YtfkagnpdapkaaaaDoor.Err
open Go.RowKit Go.Proofs.YtfkagnpdapkaaaaDoorW.PrintWords Go.Proofs.YtfkagnpdapkaaaaDoorW.PrintLast Go.Proofs.YtfkagnpdapkaaaaDoorW.PrintMore
open Go.Proofs.YtfkagnpdapkaaaaDoor.Tab Go.Proofs.YtfkagnpdapkaaaaDoor.QF
set_option linter.unusedVariables false
theorem hex_all : ∀ n : Fin 256, gojson_isHexDigit.f ((n.val : Nat) : Int) = some (decide (isHex ((n.val : Nat) : Int))) := by decide +kernel
theorem hex_f (c : Int) (h0 : 0 ≤ c) (h1 : c < 256) : gojson_isHexDigit.f c = some (decide (isHex c)) := by
  have := hex_all ⟨c.toNat, by omega⟩
  simpa [Int.toNat_of_nonneg h0] using this
theorem blank_f (c : Int) : gojson_isWhiteSpace.f c = some (decide (isBlank c)) := by
  unfold gojson_isWhiteSpace.f isBlank
  by_cases h : c = 13
  · subst h; decide
  · have e : (c == 13) = false := beq_eq_false_iff_ne.mpr h
    rw [e]
    repeat' split
    all_goals simp_all
theorem hexd (c : Int) (h0 : 0 ≤ c) (h1 : c < 256) (w : World) : Calls Tryd.prog 156 #[.int .u8 c] w fun e w' => e = .returned (.bool (decide (isHex c))) ∧ Drawn0 w w' :=
  gojson_isHexDigit.calls c _ w (hex_f c h0 h1)
theorem white (c : Int) (w : World) : Calls Tryd.prog 121 #[.int .u8 c] w fun e w' => e = .returned (.bool (decide (isBlank c))) ∧ Drawn0 w w' :=
  gojson_isWhiteSpace.calls c _ w (blank_f c)
theorem char_ {w : World} {ad : Addr} {c : Nat} {L : List Int} (hB : Buf w ad c L) (i : Int) (h0 : 0 ≤ i) (h1 : i < L.length) : Calls Tryd.prog 122 #[.slice (some ad) L.length c, .int .i64 i] w fun e w' => e = .returned (.int .u8 (rd L i)) ∧ Drawn0 w w' :=
  gojson_char.calls (some ad) c L i (rd L i) w hB.C hB.cap (by unfold gojson_char.f; rw [if_pos h0, if_pos h1])
/-- Bytes of a kind from a place to another, and no further. -/
structure RunTo (p : Int → Prop) (L : List Int) (i j : Int) : Prop where
  le : i ≤ j
  lt : j < L.length
  all : ∀ k, i ≤ k → k < j → p (rd L k)
  stop : ¬ p (rd L j)
theorem ws_run {L : List Int} (hT : Txt L) : ∀ n : Nat, ∀ i : Int, 0 ≤ i → i < L.length → (L.length : Int) - i = n → ∃ j k, RunTo isBlank L i j ∧ gojson_skipWhiteSpace.f k L i = some j := by
  intro n
  induction n with
  | zero => intro i h0 h1 hn; omega
  | succ n ih =>
    intro i h0 h1 hn
    by_cases hb : isBlank (rd L i)
    · have hin := hT.inside h0 h1 (by unfold isBlank at hb; omega)
      obtain ⟨j, k, hr, hf⟩ := ih (i + 1) (by omega) (by omega) (by omega)
      refine ⟨j, k + 1, ⟨by have := hr.le; omega, hr.lt, fun m hm hmj => ?_, hr.stop⟩, ?_⟩
      · by_cases hmi : m = i
        · rw [hmi]; exact hb
        · exact hr.all m (by omega) hmj
      · unfold gojson_skipWhiteSpace.f at hf ⊢
        unfold gojson_skipWhiteSpace.l0
        have hsm := hT.small
        have e : wrap64 (i + 1) = i + 1 := by unfold wrap64; omega
        rw [if_pos h0, if_pos h1, blank_f, decide_eq_true hb, Option.bind_some, if_pos rfl, e]
        exact hf
    · refine ⟨i, 1, ⟨Int.le_refl _, h1, fun m hm hmj => by omega, hb⟩, ?_⟩
      unfold gojson_skipWhiteSpace.f gojson_skipWhiteSpace.l0
      rw [if_pos h0, if_pos h1, blank_f, decide_eq_false hb, Option.bind_some]
      exact if_neg (by decide)
theorem skipWs {w : World} {ad : Addr} {c : Nat} {L : List Int} (hB : Buf w ad c L) (i : Int) (h0 : 0 ≤ i) (h1 : i < L.length) : ∃ j, RunTo isBlank L i j ∧ Calls Tryd.prog 87 #[.slice (some ad) L.length c, .int .i64 i] w fun e w' => e = .returned (.int .i64 j) ∧ Drawn0 w w' := by
  obtain ⟨j, k, hr, hf⟩ := ws_run hB.txt ((L.length : Int) - i).toNat i h0 h1 (by omega)
  exact ⟨j, hr, gojson_skipWhiteSpace.calls k (some ad) c L i j w hB.C hB.cap hf⟩
theorem dig_iff (c : Int) (h0 : 0 ≤ c) (h1 : c < 256) : (c - 48) % 256 ≤ 9 ↔ isDig c := by unfold isDig; omega
theorem dig_run {L : List Int} (hT : Txt L) : ∀ n : Nat, ∀ i : Int, 0 ≤ i → i < L.length → (L.length : Int) - i = n → ∃ j k, RunTo isDig L i j ∧ gojson_skipDigits.f k L i = some j := by
  intro n
  induction n with
  | zero => intro i h0 h1 hn; omega
  | succ n ih =>
    intro i h0 h1 hn
    have hby := hT.bytes i h0 h1
    by_cases hb : isDig (rd L i)
    · have hin := hT.inside h0 h1 (by unfold isDig at hb; omega)
      obtain ⟨j, k, hr, hf⟩ := ih (i + 1) (by omega) (by omega) (by omega)
      refine ⟨j, k + 1, ⟨by have := hr.le; omega, hr.lt, fun m hm hmj => ?_, hr.stop⟩, ?_⟩
      · by_cases hmi : m = i
        · rw [hmi]; exact hb
        · exact hr.all m (by omega) hmj
      · unfold gojson_skipDigits.f at hf ⊢
        unfold gojson_skipDigits.l0
        have hsm := hT.small
        have e : wrap64 (i + 1) = i + 1 := by unfold wrap64; omega
        rw [if_pos h0, if_pos h1, if_pos ((dig_iff _ hby.1 hby.2).mpr hb), e]
        exact hf
    · refine ⟨i, 1, ⟨Int.le_refl _, h1, fun m hm hmj => by omega, hb⟩, ?_⟩
      unfold gojson_skipDigits.f gojson_skipDigits.l0
      rw [if_pos h0, if_pos h1, if_neg (fun h => hb ((dig_iff _ hby.1 hby.2).mp h))]
theorem skipDigs {w : World} {ad : Addr} {c : Nat} {L : List Int} (hB : Buf w ad c L) (i : Int) (h0 : 0 ≤ i) (h1 : i < L.length) : ∃ j, RunTo isDig L i j ∧ Calls Tryd.prog 146 #[.slice (some ad) L.length c, .int .i64 i] w fun e w' => e = .returned (.int .i64 j) ∧ Drawn0 w w' := by
  obtain ⟨j, k, hr, hf⟩ := dig_run hB.txt ((L.length : Int) - i).toNat i h0 h1 (by omega)
  exact ⟨j, hr, gojson_skipDigits.calls k (some ad) c L i j w hB.C hB.cap hf⟩
end Go.Proofs.YtfkagnpdapkaaaaDoor.Err
