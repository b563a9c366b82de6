/- What the package's small functions answer, in the scanner's words. -/
import Derived.Test.YtfkagnpdapkaaaaDoorQF1
import Derived.Test.YtfkagnpdapkaaaaDoorScB
import Derived.Test.YtfkagnpdapkaaaaDoorScA
namespace Go.Proofs.YtfkagnpdapkaaaaDoor.Err
open Go.RowKit Go.Proofs.YtfkagnpdapkaaaaDoorW.PrintWords Go.Proofs.YtfkagnpdapkaaaaDoorW.PrintLast Go.Proofs.YtfkagnpdapkaaaaDoorW.PrintMore
open Go.Proofs.YtfkagnpdapkaaaaDoor.Tab Go.Proofs.YtfkagnpdapkaaaaDoor.QF
set_option linter.unusedVariables false
theorem hex_all : ∀ n : Fin 256, gojson_isHexDigit.f ((n.val : Nat) : Int) = some (decide (isHex ((n.val : Nat) : Int))) := by decide +kernel
theorem hex_f (c : Int) (h0 : 0 ≤ c) (h1 : c < 256) : gojson_isHexDigit.f c = some (decide (isHex c)) := by
  have := hex_all ⟨c.toNat, by omega⟩
  simpa [Int.toNat_of_nonneg h0] using this
theorem blank_f (c : Int) : gojson_isWhiteSpace.f c = some (decide (isBlank c)) := by
  unfold gojson_isWhiteSpace.f isBlank
  by_cases h : c = 13
  · subst h; decide
  · have e : (c == 13) = false := beq_eq_false_iff_ne.mpr h
    rw [e]
    repeat' split
    all_goals simp_all
theorem hexd (c : Int) (h0 : 0 ≤ c) (h1 : c < 256) (w : World) : Calls Tryd.prog 156 #[.int .u8 c] w fun e w' => e = .returned (.bool (decide (isHex c))) ∧ Drawn0 w w' :=
  gojson_isHexDigit.calls c _ w (hex_f c h0 h1)
theorem white (c : Int) (w : World) : Calls Tryd.prog 121 #[.int .u8 c] w fun e w' => e = .returned (.bool (decide (isBlank c))) ∧ Drawn0 w w' :=
  gojson_isWhiteSpace.calls c _ w (blank_f c)
theorem char_ {w : World} {ad : Addr} {c : Nat} {L : List Int} (hB : Buf w ad c L) (i : Int) (h0 : 0 ≤ i) (h1 : i < L.length) : Calls Tryd.prog 122 #[.slice (some ad) L.length c, .int .i64 i] w fun e w' => e = .returned (.int .u8 (rd L i)) ∧ Drawn0 w w' :=
  gojson_char.calls (some ad) c L i (rd L i) w hB.C hB.cap (by unfold gojson_char.f; rw [if_pos h0, if_pos h1])
/-- Bytes of a kind from a place to another, and no further. -/
structure RunTo (p : Int → Prop) (L : List Int) (i j : Int) : Prop where
  le : i ≤ j
  lt : j < L.length
  all : ∀ k, i ≤ k → k < j → p (rd L k)
  stop : ¬ p (rd L j)
theorem ws_run {L : List Int} (hT : Txt L) : ∀ n : Nat, ∀ i : Int, 0 ≤ i → i < L.length → (L.length : Int) - i = n → ∃ j k, RunTo isBlank L i j ∧ gojson_skipWhiteSpace.f k L i = some j := by
  intro n
  induction n with
  | zero => intro i h0 h1 hn; omega
  | succ n ih =>
    intro i h0 h1 hn
    by_cases hb : isBlank (rd L i)
    · have hin := hT.inside h0 h1 (by unfold isBlank at hb; omega)
      obtain ⟨j, k, hr, hf⟩ := ih (i + 1) (by omega) (by omega) (by omega)
      refine ⟨j, k + 1, ⟨by have := hr.le; omega, hr.lt, fun m hm hmj => ?_, hr.stop⟩, ?_⟩
      · by_cases hmi : m = i
        · rw [hmi]; exact hb
        · exact hr.all m (by omega) hmj
      · unfold gojson_skipWhiteSpace.f at hf ⊢
        unfold gojson_skipWhiteSpace.l0
        have hsm := hT.small
        have e : wrap64 (i + 1) = i + 1 := by unfold wrap64; omega
        rw [if_pos h0, if_pos h1, blank_f, decide_eq_true hb, Option.bind_some, if_pos rfl, e]
        exact hf
    · refine ⟨i, 1, ⟨Int.le_refl _, h1, fun m hm hmj => by omega, hb⟩, ?_⟩
      unfold gojson_skipWhiteSpace.f gojson_skipWhiteSpace.l0
      rw [if_pos h0, if_pos h1, blank_f, decide_eq_false hb, Option.bind_some]
      exact if_neg (by decide)
theorem skipWs {w : World} {ad : Addr} {c : Nat} {L : List Int} (hB : Buf w ad c L) (i : Int) (h0 : 0 ≤ i) (h1 : i < L.length) : ∃ j, RunTo isBlank L i j ∧ Calls Tryd.prog 87 #[.slice (some ad) L.length c, .int .i64 i] w fun e w' => e = .returned (.int .i64 j) ∧ Drawn0 w w' := by
  obtain ⟨j, k, hr, hf⟩ := ws_run hB.txt ((L.length : Int) - i).toNat i h0 h1 (by omega)
  exact ⟨j, hr, gojson_skipWhiteSpace.calls k (some ad) c L i j w hB.C hB.cap hf⟩
theorem dig_iff (c : Int) (h0 : 0 ≤ c) (h1 : c < 256) : (c - 48) % 256 ≤ 9 ↔ isDig c := by unfold isDig; omega
theorem dig_run {L : List Int} (hT : Txt L) : ∀ n : Nat, ∀ i : Int, 0 ≤ i → i < L.length → (L.length : Int) - i = n → ∃ j k, RunTo isDig L i j ∧ gojson_skipDigits.f k L i = some j := by
  intro n
  induction n with
  | zero => intro i h0 h1 hn; omega
  | succ n ih =>
    intro i h0 h1 hn
    have hby := hT.bytes i h0 h1
    by_cases hb : isDig (rd L i)
    · have hin := hT.inside h0 h1 (by unfold isDig at hb; omega)
      obtain ⟨j, k, hr, hf⟩ := ih (i + 1) (by omega) (by omega) (by omega)
      refine ⟨j, k + 1, ⟨by have := hr.le; omega, hr.lt, fun m hm hmj => ?_, hr.stop⟩, ?_⟩
      · by_cases hmi : m = i
        · rw [hmi]; exact hb
        · exact hr.all m (by omega) hmj
      · unfold gojson_skipDigits.f at hf ⊢
        unfold gojson_skipDigits.l0
        have hsm := hT.small
        have e : wrap64 (i + 1) = i + 1 := by unfold wrap64; omega
        rw [if_pos h0, if_pos h1, if_pos ((dig_iff _ hby.1 hby.2).mpr hb), e]
        exact hf
    · refine ⟨i, 1, ⟨Int.le_refl _, h1, fun m hm hmj => by omega, hb⟩, ?_⟩
      unfold gojson_skipDigits.f gojson_skipDigits.l0
      rw [if_pos h0, if_pos h1, if_neg (fun h => hb ((dig_iff _ hby.1 hby.2).mp h))]
theorem skipDigs {w : World} {ad : Addr} {c : Nat} {L : List Int} (hB : Buf w ad c L) (i : Int) (h0 : 0 ≤ i) (h1 : i < L.length) : ∃ j, RunTo isDig L i j ∧ Calls Tryd.prog 146 #[.slice (some ad) L.length c, .int .i64 i] w fun e w' => e = .returned (.int .i64 j) ∧ Drawn0 w w' := by
  obtain ⟨j, k, hr, hf⟩ := dig_run hB.txt ((L.length : Int) - i).toNat i h0 h1 (by omega)
  exact ⟨j, hr, gojson_skipDigits.calls k (some ad) c L i j w hB.C hB.cap hf⟩
end Go.Proofs.YtfkagnpdapkaaaaDoor.Err
/- The fault of a text, told by going over it again. -/
namespace Go.Proofs.YtfkagnpdapkaaaaDoor.Err
open Go.RowKit Go.Proofs.YtfkagnpdapkaaaaDoorW.PrintWords Go.Proofs.YtfkagnpdapkaaaaDoorW.PrintLast Go.Proofs.YtfkagnpdapkaaaaDoorW.PrintMore
open Go.Proofs.YtfkagnpdapkaaaaDoor.Tab
set_option linter.unusedVariables false
/-- An answer that is no error where the outcome is an end, and otherwise the fault. -/
def Tells (w : World) (o : Out) (e : Ending) (w' : World) : Prop :=
  (∃ d, o = .done d ∧ e = .returned .nilIface ∧ Below w.heap.size w w') ∨ ∃ s, o = .fault s ∧ Gives w s e w'
set_option maxRecDepth 100000 in
set_option maxHeartbeats 8000000 in
theorem stringSyntaxError (q : ByteArray → ByteArray) (ad : Addr) (c : Nat) (L : List Int) (cur : Int) (w : World) (hG : G q w) (hB : Buf w ad c L) (h0 : 0 ≤ cur) (h1 : cur + 1 < L.length) :
    Calls Tryd.prog 144 #[.slice (some ad) L.length c, .int .i64 cur] w (Tells w (out q L .text [] (cur + 1))) := by
  have HT := Aside0.mk hB.txt
  have hsm := hB.small
  have HB := Aside0.mk hB
  have HG := Aside0.mk hG
  clear hB hG
  go_enter Tryd.func144, Tryd.ntmps144
  go_wp2
  go_loopg [5] (L.length) (fun kq v1 w' => ∃ (x : Int), v1 = .int .i64 x ∧ Aside0 (0 ≤ x ∧ x < L.length ∧ out q L .text [] x = out q L .text [] (cur + 1) ∧ (L.length : Int) ≤ x + kq) ∧ Drawn0 w w')
  case atStart => exact ⟨cur + 1, rfl, ⟨by omega, h1, rfl, by omega⟩, by repeat (first | exact Drawn0.refl _ | apply Drawn0.step)⟩
  case round =>
    obtain ⟨x, rfl, HA, ⟨m, rfl⟩⟩ := hrel
    obtain ⟨hx0, hx1, ho, hk⟩ := HA.out
    clear HA
    obtain _ | g0 := gk
    · exfalso; omega
    have HO := Aside0.mk ho
    have hx := HB.out.at_ x hx0 hx1
    have hby := HT.out.bytes x hx0 hx1
    clear ho
    by_cases c1 : rd L x = 34
    · have f1 : (rd L x == 34) = true := beq_iff_eq.mpr c1
      have HP := Aside0.mk (HO.out.symm.trans (txt_quote HT.out hx0 hx1 c1))
      clear c1
      go_wp2
      go_ret
      exact .inl ⟨_, HP.out, rfl, by repeat (first | exact Below.refl _ _ | apply pw_below_drewN)⟩
    have f1 : (rd L x == 34) = false := beq_eq_false_iff_ne.mpr c1
    by_cases c2 : rd L x < 32
    · have HP := Aside0.mk (HO.out.symm.trans (txt_low HT.out hx0 hx1 c2))
      clear c1
      go_wp2_with fail
      with_reducible refine (syntaxErrorAt q ad c L x 6 _ (HG.out.drewN _) (HB.out.drewN _) hx0 hx1).mono ?_
      rintro e w2 ⟨v, rfl, hv, hb⟩
      have HV := Aside0.mk hv
      have HB := Aside0.mk hb
      clear hv hb
      go_wp2
      go_ret
      exact .inr ⟨_, HP.out, _, rfl, HV.out, belowD HB.out⟩
    by_cases c3 : rd L x = 92
    · have f3 : (rd L x == 92) = true := beq_iff_eq.mpr c3
      obtain ⟨hn, hlt⟩ := txt_bs (q := q) (st := []) HT.out hx0 hx1 c3
      have HP := Aside0.mk (hn.symm.trans HO.out)
      clear c1 c3 hn
      have hx' := HB.out.at_ (x + 1) (by omega) hlt
      have hby' := HT.out.bytes (x + 1) (by omega) hlt
      by_cases ce : isEsc (rd L (x + 1))
      · obtain ⟨hn, hlt2⟩ := esc_ok (q := q) (st := []) HT.out (by omega) hlt ce
        have HP2 := Aside0.mk (hn.symm.trans HP.out)
        clear hn
        rcases ce with h | h | h | h | h | h | h | h
        all_goals
          rw [h] at hx'
          clear h hby' HP
          go_wp2
          go_roundg g0
          case measure => omega
          case rel => exact ⟨x + 1 + 1, rfl, ⟨by omega, hlt2, HP2.out, by omega⟩, by repeat (first | exact Drawn0.refl _ | apply Drawn0.step)⟩
      by_cases cu : rd L (x + 1) = 117
      · obtain ⟨hn, hlt2⟩ := esc_u (q := q) (st := []) HT.out (by omega) hlt cu
        have HP2 := Aside0.mk (hn.symm.trans HP.out)
        rw [cu] at hx'
        clear hn cu ce hby' HP
        go_wp2
        go_loopg [7] 4 (fun kq v1 w' => ∃ (i : Int), v1 = .int .i64 i ∧ Aside0 (2 ≤ i ∧ i + kq = 6 ∧ x + i < L.length ∧ out q L (if kq = 0 then .text else .dig (4 - kq)) [] (x + i) = out q L .text [] (cur + 1)) ∧ Drawn0 w w')
        case atStart => exact ⟨2, rfl, ⟨by omega, by omega, by omega, by rw [show x + 2 = x + 1 + 1 by omega]; exact HP2.out⟩, by repeat (first | exact Drawn0.refl _ | apply Drawn0.step)⟩
        case round =>
          obtain ⟨i, rfl, HI, ⟨m2, rfl⟩⟩ := hrel
          obtain ⟨hi0, hi1, hi2, hi3⟩ := HI.out
          have HI3 := Aside0.mk hi3
          clear HI hi3
          obtain _ | g1 := gk
          · have e6 : i = 6 := by omega
            subst e6
            have HP3 := Aside0.mk (show out q L .text [] (x + 6) = out q L .text [] (cur + 1) from HI3.out)
            clear HI3 HP2
            go_wp2
            go_roundg g0
            case measure => omega
            case rel => exact ⟨x + 5 + 1, rfl, by rw [show x + 5 + 1 = x + 6 by omega]; exact ⟨by omega, hi2, HP3.out, by omega⟩, by repeat (first | exact Drawn0.refl _ | apply Drawn0.step)⟩
          · have hc := HI3.out
            rw [if_neg (by omega)] at hc
            have hxi := HB.out.at_ (x + i) (by omega) hi2
            have hbi := HT.out.bytes (x + i) (by omega) hi2
            have hile : i ≤ 5 := by omega
            by_cases ch : isHex (rd L (x + i))
            · obtain ⟨hn, hlt3⟩ := dig_ok (q := q) (st := []) (k := 4 - (g1 + 1)) HT.out (by omega) hi2 ch
              have HP3 := Aside0.mk (hn.symm.trans hc)
              have hcall := fun w' => hexd (rd L (x + i)) hbi.1 hbi.2 w'
              rw [decide_eq_true ch] at hcall
              have HC := Aside0.mk hcall
              clear hn hc hcall ch HI3 HP2
              go_wp2_with fail
              with_reducible refine (HC.out _).mono ?_
              rintro e w2 ⟨rfl, ⟨m3, rfl⟩⟩
              go_wp2
              go_roundg g1
              case measure => omega
              case rel =>
                refine ⟨i + 1, rfl, ⟨by omega, by omega, by omega, ?_⟩, by repeat (first | exact Drawn0.refl _ | apply Drawn0.step)⟩
                have h3 := HP3.out
                rw [show x + i + 1 = x + (i + 1) by omega] at h3
                rw [← h3]
                by_cases hg : g1 = 0
                · subst hg; rfl
                · rw [if_neg hg, if_neg (by omega), show 4 - (g1 + 1) + 1 = 4 - g1 by omega]
            · have HF := Aside0.mk (hc.symm.trans (dig_bad (q := q) (st := []) (k := 4 - (g1 + 1)) HT.out (by omega) hi2 ch))
              have hcall := fun w' => hexd (rd L (x + i)) hbi.1 hbi.2 w'
              rw [decide_eq_false ch] at hcall
              have HC := Aside0.mk hcall
              clear hc hcall ch HI3 HP2
              go_wp2_with fail
              with_reducible refine (HC.out _).mono ?_
              rintro e w2 ⟨rfl, ⟨m3, rfl⟩⟩
              go_wp2_with fail
              with_reducible refine (escapeError q ad c L (x + i) x _ (HG.out.drewN _) (HB.out.drewN _) (by omega) hi2 hx0 hx1).mono ?_
              rintro e w3 ⟨v, rfl, hv, hb⟩
              have HV := Aside0.mk hv
              have HB3 := Aside0.mk hb
              clear hv hb
              go_wp2
              go_ret
              refine .inr ⟨_, HF.out, _, rfl, ?_, belowD HB3.out⟩
              have hV := HV.out
              unfold escWhat at hV
              rw [if_pos (by omega)] at hV
              exact hV
      · have HF := Aside0.mk (HP.out.symm.trans (esc_bad (q := q) (st := []) HT.out (by omega) hlt ce cu))
        have e1 : (rd L (x + 1) == 34) = false := beq_eq_false_iff_ne.mpr fun h => ce (by rw [h]; decide)
        have e2 : (rd L (x + 1) == 92) = false := beq_eq_false_iff_ne.mpr fun h => ce (by rw [h]; decide)
        have e3 : (rd L (x + 1) == 47) = false := beq_eq_false_iff_ne.mpr fun h => ce (by rw [h]; decide)
        have e4 : (rd L (x + 1) == 98) = false := beq_eq_false_iff_ne.mpr fun h => ce (by rw [h]; decide)
        have e5 : (rd L (x + 1) == 102) = false := beq_eq_false_iff_ne.mpr fun h => ce (by rw [h]; decide)
        have e6 : (rd L (x + 1) == 110) = false := beq_eq_false_iff_ne.mpr fun h => ce (by rw [h]; decide)
        have e7 : (rd L (x + 1) == 114) = false := beq_eq_false_iff_ne.mpr fun h => ce (by rw [h]; decide)
        have e8 : (rd L (x + 1) == 116) = false := beq_eq_false_iff_ne.mpr fun h => ce (by rw [h]; decide)
        have e9 : (rd L (x + 1) == 117) = false := beq_eq_false_iff_ne.mpr cu
        clear ce cu HP
        go_wp2_with fail
        with_reducible refine (escapeError q ad c L (x + 1) x _ (HG.out.drewN _) (HB.out.drewN _) (by omega) hlt hx0 hx1).mono ?_
        rintro e w3 ⟨v, rfl, hv, hb⟩
        have HV := Aside0.mk hv
        have HB3 := Aside0.mk hb
        clear hv hb
        go_wp2
        go_ret
        refine .inr ⟨_, HF.out, _, rfl, ?_, belowD HB3.out⟩
        have hV := HV.out
        unfold escWhat at hV
        rw [if_neg (by omega)] at hV
        exact hV
    · have f3 : (rd L x == 92) = false := beq_eq_false_iff_ne.mpr c3
      obtain ⟨hn, hlt⟩ := txt_other (q := q) (st := []) HT.out hx0 hx1 c2 c1 c3
      have HP := Aside0.mk (hn.symm.trans HO.out)
      clear c1 c3 hn
      go_wp2
      go_roundg g0
      case measure => omega
      case rel => exact ⟨x + 1, rfl, ⟨by omega, hlt, HP.out, by omega⟩, by repeat (first | exact Drawn0.refl _ | apply Drawn0.step)⟩
/-- The fault of a text: the one that is told by going over it again, where there is one. -/
theorem stringError (q : ByteArray → ByteArray) (ad : Addr) (c : Nat) (L : List Int) (cur : Int) (v : Value) (s : SE) (w : World) (hG : G q w) (hB : Buf w ad c L) (h0 : 0 ≤ cur) (h1 : cur + 1 < L.length) (ho : out q L .text [] (cur + 1) = .fault s) :
    Calls Tryd.prog 117 #[.slice (some ad) L.length c, .int .i64 cur, v] w (Gives w s) := by
  have HC := Aside0.mk (stringSyntaxError q ad c L cur w hG hB h0 h1)
  have HO := Aside0.mk ho
  clear hG hB ho
  go_enter Tryd.func117, Tryd.ntmps117
  go_wp2_with fail
  with_reducible refine HC.out.mono ?_
  rintro e w1 (⟨d, hd, _⟩ | ⟨s', hs, u, rfl, ⟨g, rfl, hp⟩, hb⟩)
  · rw [HO.out] at hd
    cases hd
  · rw [HO.out] at hs
    cases hs
    have HP := Aside0.mk hp
    have HB := Aside0.mk hb
    clear hp hb
    go_wp2
    go_ret
    exact ⟨_, rfl, ⟨g, rfl, HP.out⟩, HB.out⟩
end Go.Proofs.YtfkagnpdapkaaaaDoor.Err
/- What the scanner tells of a number, byte by byte, whatever is open around it. -/
namespace Go.Proofs.YtfkagnpdapkaaaaDoor.Err
open Go.RowKit Go.Proofs.YtfkagnpdapkaaaaDoorW.PrintWords Go.Proofs.YtfkagnpdapkaaaaDoorW.PrintLast Go.Proofs.YtfkagnpdapkaaaaDoorW.PrintMore
set_option linter.unusedVariables false
theorem step_minus (q : ByteArray → ByteArray) (c : Int) (st : List Br) : step q c .minus st = if c = 48 then .ok (.zero, st) else if isDig c then .ok (.whole, st) else .error (badWords q c wNumber, false) := rfl
theorem step_e (q : ByteArray → ByteArray) (c : Int) (st : List Br) : step q c .e st = if c = 43 ∨ c = 45 then .ok (.sign, st) else if isDig c then .ok (.exp, st) else .error (badWords q c wExponent, false) := rfl
theorem more_dig (q : ByteArray → ByteArray) (c : Int) (ph : Ph) (st : List Br) (a b : Bool) (h : isDig c) : numMore q c ph st true a b = .ok (ph, st) := if_pos ⟨rfl, h⟩
theorem RunTo.from {p : Int → Prop} {L : List Int} {i j : Int} (h : RunTo p L i j) (hp : p (rd L i)) : RunTo p L (i + 1) j := by
  have h1 := h.le
  have h2 : i ≠ j := fun e => h.stop (e ▸ hp)
  exact ⟨by omega, h.lt, fun k hk hkj => h.all k (by omega) hkj, h.stop⟩
/-- From here a value ends there. -/
def Ends (q : ByteArray → ByteArray) (L : List Int) (ph : Ph) (i d : Int) : Prop := ∀ st, out q L ph st i = contO q L st d
/-- From here a value has this fault. -/
def Bad (q : ByteArray → ByteArray) (L : List Int) (ph : Ph) (i : Int) (s : SE) : Prop := ∀ st, out q L ph st i = .fault s
/-- From one place and state things come as from the other. -/
def Same (q : ByteArray → ByteArray) (L : List Int) (ph : Ph) (i : Int) (ph' : Ph) (j : Int) : Prop := ∀ st, out q L ph st i = out q L ph' st j
section
variable {q : ByteArray → ByteArray} {L : List Int} {ph ph' ph2 : Ph} {i j k d x : Int} {s : SE}
theorem Same.refl : Same q L ph i ph i := fun _ => rfl
theorem Same.trans (h : Same q L ph i ph' j) (h2 : Same q L ph' j ph2 k) : Same q L ph i ph2 k := fun st => (h st).trans (h2 st)
theorem Same.ends (h : Same q L ph i ph' j) (h2 : Ends q L ph' j d) : Ends q L ph i d := fun st => (h st).trans (h2 st)
theorem Same.bad (h : Same q L ph i ph' j) (h2 : Bad q L ph' j s) : Bad q L ph i s := fun st => (h st).trans (h2 st)
theorem same_step (h0 : 0 ≤ x) (h1 : x < (L.length : Int) - 1) (hs : ∀ st, step q (rd L x) ph st = .ok (ph', st)) (ha : isAll ph' = false) : Same q L ph x ph' (x + 1) := fun st => out_step h0 h1 (hs st) ha
/-- A byte that cannot stand in a number. -/
theorem num_bad (what : ByteArray) (hT : Txt L) (h0 : 0 ≤ x) (h1 : x < L.length) (hs : ∀ st, step q (rd L x) ph st = .error (badWords q (rd L x) what, false)) (he : numFinal ph = false) (hb : ∀ st, step q 32 ph st = .error (badWords q 32 what, false)) : Bad q L ph x (scalarF q L x what) := by
  intro st
  have hen : ender ph st = false := by unfold ender; rw [he]; rfl
  unfold scalarF
  by_cases h : x = (L.length : Int) - 1
  · rw [out_stop hT h hen, if_pos h]
    unfold endF
    rw [hb]
  · rw [out_err h0 (by omega) (hs st) hen, if_neg h]
    rfl
theorem dig_next (hT : Txt L) (h0 : 0 ≤ x) (h1 : x < L.length) (hd : isDig (rd L x)) : x < (L.length : Int) - 1 := hT.inside h0 h1 (by unfold isDig at hd; omega)
theorem point_bad (hT : Txt L) (h0 : 0 ≤ x) (h1 : x < L.length) (hd : ¬ isDig (rd L x)) : Bad q L .point x (scalarF q L x wFraction) :=
  num_bad _ hT h0 h1 (fun st => if_neg hd) rfl (fun st => rfl)
theorem sign_bad (hT : Txt L) (h0 : 0 ≤ x) (h1 : x < L.length) (hd : ¬ isDig (rd L x)) : Bad q L .sign x (scalarF q L x wExponent) :=
  num_bad _ hT h0 h1 (fun st => if_neg hd) rfl (fun st => rfl)
theorem e_bad (hT : Txt L) (h0 : 0 ≤ x) (h1 : x < L.length) (hd : ¬ isDig (rd L x)) (hp : rd L x ≠ 43) (hm : rd L x ≠ 45) : Bad q L .e x (scalarF q L x wExponent) :=
  num_bad _ hT h0 h1 (fun st => by rw [step_e, if_neg (by omega), if_neg hd]) rfl (fun st => rfl)
theorem minus_bad (hT : Txt L) (h0 : 0 ≤ x) (h1 : x < L.length) (hd : ¬ isDig (rd L x)) : Bad q L .minus x (scalarF q L x wNumber) :=
  num_bad _ hT h0 h1 (fun st => by rw [step_minus, if_neg (fun h => hd (by rw [h]; decide)), if_neg hd]) rfl (fun st => rfl)
theorem point_dig (hT : Txt L) (h0 : 0 ≤ x) (h1 : x < L.length) (hd : isDig (rd L x)) : Same q L .point x .frac (x + 1) := same_step h0 (dig_next hT h0 h1 hd) (fun st => if_pos hd) rfl
theorem sign_dig (hT : Txt L) (h0 : 0 ≤ x) (h1 : x < L.length) (hd : isDig (rd L x)) : Same q L .sign x .exp (x + 1) := same_step h0 (dig_next hT h0 h1 hd) (fun st => if_pos hd) rfl
theorem e_dig (hT : Txt L) (h0 : 0 ≤ x) (h1 : x < L.length) (hd : isDig (rd L x)) : Same q L .e x .exp (x + 1) := same_step h0 (dig_next hT h0 h1 hd) (fun st => by rw [step_e, if_neg (by unfold isDig at hd; omega), if_pos hd]) rfl
theorem e_sign (hT : Txt L) (h0 : 0 ≤ x) (h1 : x < L.length) (hd : rd L x = 43 ∨ rd L x = 45) : Same q L .e x .sign (x + 1) := same_step h0 (hT.inside h0 h1 (by omega)) (fun st => if_pos hd) rfl
theorem minus_zero (hT : Txt L) (h0 : 0 ≤ x) (h1 : x < L.length) (hd : rd L x = 48) : Same q L .minus x .zero (x + 1) := same_step h0 (hT.inside h0 h1 (by omega)) (fun st => if_pos hd) rfl
theorem minus_dig (hT : Txt L) (h0 : 0 ≤ x) (h1 : x < L.length) (hd : isDig (rd L x)) (hz : rd L x ≠ 48) : Same q L .minus x .whole (x + 1) := same_step h0 (dig_next hT h0 h1 hd) (fun st => by rw [step_minus, if_neg hz, if_pos hd]) rfl
theorem zero_dot (hT : Txt L) (h0 : 0 ≤ x) (h1 : x < L.length) (hd : rd L x = 46) : Same q L .zero x .point (x + 1) := same_step h0 (hT.inside h0 h1 (by omega)) (fun st => by rw [hd]; rfl) rfl
theorem whole_dot (hT : Txt L) (h0 : 0 ≤ x) (h1 : x < L.length) (hd : rd L x = 46) : Same q L .whole x .point (x + 1) := same_step h0 (hT.inside h0 h1 (by omega)) (fun st => by rw [hd]; rfl) rfl
theorem zero_e (hT : Txt L) (h0 : 0 ≤ x) (h1 : x < L.length) (hd : rd L x = 101 ∨ rd L x = 69) : Same q L .zero x .e (x + 1) := same_step h0 (hT.inside h0 h1 (by omega)) (fun st => by rcases hd with hd | hd <;> rw [hd] <;> rfl) rfl
theorem whole_e (hT : Txt L) (h0 : 0 ≤ x) (h1 : x < L.length) (hd : rd L x = 101 ∨ rd L x = 69) : Same q L .whole x .e (x + 1) := same_step h0 (hT.inside h0 h1 (by omega)) (fun st => by rcases hd with hd | hd <;> rw [hd] <;> rfl) rfl
theorem frac_e (hT : Txt L) (h0 : 0 ≤ x) (h1 : x < L.length) (hd : rd L x = 101 ∨ rd L x = 69) : Same q L .frac x .e (x + 1) := same_step h0 (hT.inside h0 h1 (by omega)) (fun st => by rcases hd with hd | hd <;> rw [hd] <;> rfl) rfl
/-- Digits that go on. -/
theorem digs {p : Ph} (hT : Txt L) (hp : ∀ c st, isDig c → step q c p st = .ok (p, st)) (ha : isAll p = false) : ∀ n : Nat, ∀ i : Int, 0 ≤ i → RunTo isDig L i j → j - i = n → Same q L p i p j := by
  intro n
  induction n with
  | zero => intro i h0 hr hn; rw [show j = i by omega]; exact Same.refl
  | succ n ih =>
    intro i h0 hr hn
    have hd := hr.all i (Int.le_refl _) (by omega)
    have hlt := hr.lt
    refine Same.trans (same_step h0 (dig_next hT h0 (by omega) hd) (fun st => hp _ st hd) ha) (ih (i + 1) (by omega) ⟨by omega, hlt, fun m hm hmj => hr.all m (by omega) hmj, hr.stop⟩ (by omega))
theorem whole_digs (hT : Txt L) (h0 : 0 ≤ i) (hr : RunTo isDig L i j) : Same q L .whole i .whole j := digs (p := .whole) (q := q) hT (fun c st hd => more_dig q c _ st _ _ hd) rfl (j - i).toNat i h0 hr (by have := hr.le; omega)
theorem frac_digs (hT : Txt L) (h0 : 0 ≤ i) (hr : RunTo isDig L i j) : Same q L .frac i .frac j := digs (p := .frac) (q := q) hT (fun c st hd => more_dig q c _ st _ _ hd) rfl (j - i).toNat i h0 hr (by have := hr.le; omega)
theorem exp_digs (hT : Txt L) (h0 : 0 ≤ i) (hr : RunTo isDig L i j) : Same q L .exp i .exp j := digs (p := .exp) (q := q) hT (fun c st hd => more_dig q c _ st _ _ hd) rfl (j - i).toNat i h0 hr (by have := hr.le; omega)
theorem between_all (c : Int) (st : List Br) : (∃ m, between q c .all st = .error m) ∨ between q c .all st = .ok (.all, st) := by
  unfold between
  by_cases h : isBlank c
  · rw [if_pos h]; exact .inr rfl
  · rw [if_neg h]; exact .inl ⟨_, rfl⟩
theorem step_closed (c : Int) (st : List Br) (h : st ≠ []) : step q c (closed st).1 (closed st).2 = between q c (closed st).1 (closed st).2 := by
  match st, h with
  | .obj :: r, _ => rfl
  | .arr :: r, _ => rfl
  | .key :: r, _ => rfl
theorem closed_ender (st : List Br) : ender (closed st).1 (closed st).2 = false := by
  match st with
  | [] => rfl
  | .obj :: r => rfl
  | .arr :: r => rfl
  | .key :: r => rfl
theorem closed_all (st : List Br) (h : st ≠ []) : isAll (closed st).1 = false := by
  match st, h with
  | .obj :: r, _ => rfl
  | .arr :: r, _ => rfl
  | .key :: r, _ => rfl
/-- A number ends where it cannot go on. -/
theorem num_ends (hT : Txt L) (h0 : 0 ≤ x) (h1 : x < L.length) (hf : numFinal ph = true) (hs : ∀ st, step q (rd L x) ph st = between q (rd L x) (closed st).1 (closed st).2) (hb : ∀ st, step q 32 ph st = between q 32 (closed st).1 (closed st).2) : Ends q L ph x x := by
  intro st
  unfold contO
  by_cases hn : st = []
  · subst hn
    have e0 : isAll (closed []).1 = true := rfl
    rw [if_pos e0]
    have he : ender ph [] = true := by unfold ender; rw [hf]; rfl
    by_cases h : x = (L.length : Int) - 1
    · rw [out_end q L ph [] x h hT.pos, if_pos he]
    · rw [out_at q L ph [] x h0 (by omega), hs]
      rcases between_all (q := q) (rd L x) [] with ⟨m, hm⟩ | hm
      · show (match between q (rd L x) .all [] with
          | .error m => if ender ph [] = true then Out.done x else .fault ⟨m.1, x + 1, false, if m.2 = true then x + 1 else 0⟩
          | .ok s => if isAll s.1 = true then (if ender ph [] = true then .done x else .done (x + 1)) else out q L s.1 s.2 (x + 1)) = _
        rw [hm]
        exact if_pos he
      · show (match between q (rd L x) .all [] with
          | .error m => if ender ph [] = true then Out.done x else .fault ⟨m.1, x + 1, false, if m.2 = true then x + 1 else 0⟩
          | .ok s => if isAll s.1 = true then (if ender ph [] = true then .done x else .done (x + 1)) else out q L s.1 s.2 (x + 1)) = _
        rw [hm]
        simp only [he]
        rfl
  · rw [if_neg (by rw [closed_all st hn]; decide)]
    have he : ender ph st = false := by
      unfold ender
      cases st with
      | nil => exact absurd rfl hn
      | cons a r => rw [hf]; rfl
    by_cases h : x = (L.length : Int) - 1
    · rw [out_stop hT h he, out_stop hT h (closed_ender st)]
      unfold endF
      rw [hb, step_closed _ _ hn]
    · rw [out_at q L ph st x h0 (by omega), out_at q L _ _ x h0 (by omega), hs, step_closed _ _ hn, he, closed_ender]
theorem zero_ends (hT : Txt L) (h0 : 0 ≤ x) (h1 : x < L.length) (hp : rd L x ≠ 46) (he : rd L x ≠ 101) (hE : rd L x ≠ 69) : Ends q L .zero x x :=
  num_ends hT h0 h1 rfl (fun st => by show numMore q _ .zero st false true true = _; unfold numMore; rw [if_neg (by simp), if_neg (by simp [hp]), if_neg (by simp [he, hE])]) (fun st => rfl)
theorem whole_ends (hT : Txt L) (h0 : 0 ≤ x) (h1 : x < L.length) (hd : ¬ isDig (rd L x)) (hp : rd L x ≠ 46) (he : rd L x ≠ 101) (hE : rd L x ≠ 69) : Ends q L .whole x x :=
  num_ends hT h0 h1 rfl (fun st => by show numMore q _ .whole st true true true = _; unfold numMore; rw [if_neg (by simp [hd]), if_neg (by simp [hp]), if_neg (by simp [he, hE])]) (fun st => rfl)
theorem frac_ends (hT : Txt L) (h0 : 0 ≤ x) (h1 : x < L.length) (hd : ¬ isDig (rd L x)) (he : rd L x ≠ 101) (hE : rd L x ≠ 69) : Ends q L .frac x x :=
  num_ends hT h0 h1 rfl (fun st => by show numMore q _ .frac st true false true = _; unfold numMore; rw [if_neg (by simp [hd]), if_neg (by simp), if_neg (by simp [he, hE])]) (fun st => rfl)
theorem exp_ends (hT : Txt L) (h0 : 0 ≤ x) (h1 : x < L.length) (hd : ¬ isDig (rd L x)) : Ends q L .exp x x :=
  num_ends hT h0 h1 rfl (fun st => by show numMore q _ .exp st true false false = _; unfold numMore; rw [if_neg (by simp [hd]), if_neg (by simp), if_neg (by simp)]) (fun st => rfl)
end
end Go.Proofs.YtfkagnpdapkaaaaDoor.Err
/- A number's end, or its fault. -/
namespace Go.Proofs.YtfkagnpdapkaaaaDoor.Err
open Go.RowKit Go.Proofs.YtfkagnpdapkaaaaDoorW.PrintWords Go.Proofs.YtfkagnpdapkaaaaDoorW.PrintLast Go.Proofs.YtfkagnpdapkaaaaDoorW.PrintMore
open Go.Proofs.YtfkagnpdapkaaaaDoor.Tab
set_option linter.unusedVariables false
/-- A place and no error, where the value ends; or an error, which is its fault. -/
def TellsP (q : ByteArray → ByteArray) (L : List Int) (ph : Ph) (i : Int) (w : World) (e : Ending) (w' : World) : Prop :=
  (∃ d, i ≤ d ∧ d < L.length ∧ Ends q L ph i d ∧ e = .returned (.tuple #[.int .i64 d, .nilIface]) ∧ Below w.heap.size w w') ∨
  ∃ s v, Bad q L ph i s ∧ e = .returned (.tuple #[.int .i64 0, v]) ∧ EV w' v s ∧ Below w.heap.size w w'
theorem TellsP.from {q : ByteArray → ByteArray} {L : List Int} {ph ph' : Ph} {i i' : Int} {w W w' : World} {e : Ending} (hs : Same q L ph i ph' i') (hi : i ≤ i') (hb : Below w.heap.size w W) (h : TellsP q L ph' i' W e w') : TellsP q L ph i w e w' := by
  rcases h with ⟨d, h1, h2, h3, h4, h5⟩ | ⟨s, v, h1, h2, h3, h4⟩
  · exact .inl ⟨d, by omega, h2, hs.ends h3, h4, below_step hb h5⟩
  · exact .inr ⟨s, v, hs.bad h1, h2, h3, below_step hb h4⟩
theorem digs_at {w : World} {ad : Addr} {c : Nat} {L : List Int} (hB : Buf w ad c L) (i : Int) (h0 : 0 ≤ i) (h1 : i < L.length) : ∃ j, RunTo isDig L i j ∧ ∀ W, Below w.heap.size w W → Calls Tryd.prog 146 #[.slice (some ad) L.length c, .int .i64 i] W fun e w' => e = .returned (.int .i64 j) ∧ Drawn0 W w' := by
  obtain ⟨j, k, hr, hf⟩ := dig_run hB.txt ((L.length : Int) - i).toNat i h0 h1 (by omega)
  exact ⟨j, hr, fun W hb => QF.gojson_skipDigits.calls k (some ad) c L i j _ (hB.below hb).C hB.cap hf⟩
set_option maxRecDepth 100000 in
set_option maxHeartbeats 8000000 in
theorem skipNumberRest (q : ByteArray → ByteArray) (ad : Addr) (c : Nat) (L : List Int) (start cur : Int) (ph : Ph) (w : World) (hG : G q w) (hB : Buf w ad c L) (h0 : 0 ≤ cur) (h1 : cur < L.length)
    (hdot : rd L cur = 46 → Same q L ph cur .point (cur + 1)) (hexp : rd L cur = 101 ∨ rd L cur = 69 → Same q L ph cur .e (cur + 1)) (hend : rd L cur ≠ 46 → rd L cur ≠ 101 → rd L cur ≠ 69 → Ends q L ph cur cur) :
    Calls Tryd.prog 118 #[.slice (some ad) L.length c, .int .i64 start, .int .i64 cur] w (TellsP q L ph cur w) := by
  have HT := Aside0.mk hB.txt
  have hsm := hB.small
  have HB := Aside0.mk hB
  have HG := Aside0.mk hG
  have HDot := Aside0.mk hdot
  have HExp := Aside0.mk hexp
  have HEnd := Aside0.mk hend
  have hx := hB.at_ cur h0 h1
  have hby := hB.byte cur h0 h1
  clear hB hG hdot hexp hend
  by_cases cd : rd L cur = 46
  · have HS := Aside0.mk (HDot.out cd)
    have hlt := HT.out.inside h0 h1 (by omega)
    rw [cd] at hx
    clear HExp HEnd HDot cd
    have h2 : cur + 1 < L.length := by omega
    have hx1 := HB.out.at_ (cur + 1) (by omega) h2
    have hby1 := HT.out.bytes (cur + 1) (by omega) h2
    by_cases ci : isDig (rd L (cur + 1))
    · obtain ⟨j, hr, hcall⟩ := digs_at HB.out (cur + 1) (by omega) h2
      have hjle := hr.le
      have hj1 := hr.lt
      have HS2 := Aside0.mk ((HS.out.trans (point_dig HT.out (by omega) h2 ci)).trans (frac_digs HT.out (by omega) (hr.from ci)))
      have HR := Aside0.mk hr.stop
      have HC := Aside0.mk hcall
      have hci : 48 ≤ rd L (cur + 1) ∧ rd L (cur + 1) ≤ 57 := ci
      clear hr hcall HS ci
      go_enter Tryd.func118, Tryd.ntmps118
      go_wp2_with fail
      with_reducible refine (HC.out _ ?b).mono ?_
      case b => exact (by repeat (first | exact Below.refl _ _ | exact HBW.out | apply pw_below_drewN))
      rintro e w2 ⟨rfl, ⟨m, rfl⟩⟩
      clear HC
      have hxj := HB.out.at_ j (by omega) hj1
      have hbj := HT.out.bytes j (by omega) hj1
      by_cases ce : rd L j = 101 ∨ rd L j = 69
      · have HE0 := Aside0.mk (HS2.out.trans <| frac_e HT.out (by omega) hj1 ce)
        have hk1 : j + 1 < L.length := by have := HT.out.inside (x := j) (by omega) hj1 (by omega); omega
        have hx1 := HB.out.at_ (j + 1) (by omega) hk1
        have hb1 := HT.out.bytes (j + 1) (by omega) hk1
        by_cases cs : rd L (j + 1) = 43 ∨ rd L (j + 1) = 45
        · have HE := Aside0.mk (HE0.out.trans (e_sign HT.out (by omega) hk1 cs))
          have hk0 := hk1
          have hk1 : j + 1 + 1 < L.length := by have := HT.out.inside (x := j + 1) (by omega) hk0 (by omega); omega
          clear HE0
          rcases ce with ce | ce <;> rcases cs with cs | cs
          all_goals
            rw [ce] at hxj
            rw [cs] at hx1
            clear ce cs hbj hb1 HS2 HR
            have hxk := HB.out.at_ (j + 1 + 1) (by omega) hk1
            have hbk := HT.out.bytes (j + 1 + 1) (by omega) hk1
            by_cases cz : isDig (rd L (j + 1 + 1))
            · obtain ⟨d, hr, hcall⟩ := digs_at HB.out (j + 1 + 1) (by omega) hk1
              have hdle := hr.le
              have hd1 := hr.lt
              have HE2 := Aside0.mk ((HE.out.trans (sign_dig HT.out (by omega) hk1 cz)).trans (exp_digs HT.out (by omega) (hr.from cz)))
              have HEnd := Aside0.mk (HE2.out.ends (exp_ends HT.out (by omega) hd1 hr.stop))
              have HC2 := Aside0.mk hcall
              have hcz : 48 ≤ rd L (j + 1 + 1) ∧ rd L (j + 1 + 1) ≤ 57 := cz
              clear hr hcall HE HE2 cz
              go_wp2_with fail
              with_reducible refine (HC2.out _ ?b).mono ?_
              case b => exact (by repeat (first | exact Below.refl _ _ | exact HBW.out | apply pw_below_drewN))
              rintro e w2 ⟨rfl, ⟨m2, rfl⟩⟩
              go_wp2
              go_ret2
              exact .inl ⟨d, by omega, hd1, HEnd.out, rfl, (by repeat (first | exact Below.refl _ _ | exact HBW.out | apply pw_below_drewN))⟩
            · have HF := Aside0.mk (HE.out.bad (sign_bad HT.out (by omega) hk1 cz))
              have hcz : rd L (j + 1 + 1) < 48 ∨ 57 < rd L (j + 1 + 1) := by unfold isDig at cz; omega
              clear HE cz
              go_wp2_with fail
              with_reducible refine (numberError q ad c L (j + 1 + 1) start 9 _ (HG.out.below ?b) (HB.out.below ?b) (by omega) hk1).mono ?_
              case b => exact (by repeat (first | exact Below.refl _ _ | exact HBW.out | apply pw_below_drewN))
              rintro e w3 ⟨v, rfl, hv, hb⟩
              have HV := Aside0.mk hv
              have HB3 := Aside0.mk (below_step (w := w) (by repeat (first | exact Below.refl _ _ | exact HBW.out | apply pw_below_drewN)) hb)
              clear hv hb
              go_wp2
              go_ret2
              exact .inr ⟨_, _, HF.out, rfl, HV.out, HB3.out⟩
        · have f1 : (rd L (j + 1) == 43) = false := beq_eq_false_iff_ne.mpr (by omega)
          have f2 : (rd L (j + 1) == 45) = false := beq_eq_false_iff_ne.mpr (by omega)
          have HE := HE0
          have HCS := Aside0.mk (show rd L (j + 1) ≠ 43 ∧ rd L (j + 1) ≠ 45 by omega)
          clear HE0 cs
          rcases ce with ce | ce
          all_goals
            rw [ce] at hxj
            clear ce hbj HS2 HR
            have hxk := HB.out.at_ (j + 1) (by omega) hk1
            have hbk := HT.out.bytes (j + 1) (by omega) hk1
            by_cases cz : isDig (rd L (j + 1))
            · obtain ⟨d, hr, hcall⟩ := digs_at HB.out (j + 1) (by omega) hk1
              have hdle := hr.le
              have hd1 := hr.lt
              have HE2 := Aside0.mk ((HE.out.trans (e_dig HT.out (by omega) hk1 cz)).trans (exp_digs HT.out (by omega) (hr.from cz)))
              have HEnd := Aside0.mk (HE2.out.ends (exp_ends HT.out (by omega) hd1 hr.stop))
              have HC2 := Aside0.mk hcall
              have hcz : 48 ≤ rd L (j + 1) ∧ rd L (j + 1) ≤ 57 := cz
              clear hr hcall HE HE2 cz
              go_wp2_with fail
              with_reducible refine (HC2.out _ ?b).mono ?_
              case b => exact (by repeat (first | exact Below.refl _ _ | exact HBW.out | apply pw_below_drewN))
              rintro e w2 ⟨rfl, ⟨m2, rfl⟩⟩
              go_wp2
              go_ret2
              exact .inl ⟨d, by omega, hd1, HEnd.out, rfl, (by repeat (first | exact Below.refl _ _ | exact HBW.out | apply pw_below_drewN))⟩
            · have HF := Aside0.mk (HE.out.bad (e_bad HT.out (by omega) hk1 cz HCS.out.1 HCS.out.2))
              have hcz : rd L (j + 1) < 48 ∨ 57 < rd L (j + 1) := by unfold isDig at cz; omega
              clear HE cz
              go_wp2_with fail
              with_reducible refine (numberError q ad c L (j + 1) start 9 _ (HG.out.below ?b) (HB.out.below ?b) (by omega) hk1).mono ?_
              case b => exact (by repeat (first | exact Below.refl _ _ | exact HBW.out | apply pw_below_drewN))
              rintro e w3 ⟨v, rfl, hv, hb⟩
              have HV := Aside0.mk hv
              have HB3 := Aside0.mk (below_step (w := w) (by repeat (first | exact Below.refl _ _ | exact HBW.out | apply pw_below_drewN)) hb)
              clear hv hb
              go_wp2
              go_ret2
              exact .inr ⟨_, _, HF.out, rfl, HV.out, HB3.out⟩
      · have f1 : (rd L j == 101) = false := beq_eq_false_iff_ne.mpr (by omega)
        have f2 : (rd L j == 69) = false := beq_eq_false_iff_ne.mpr (by omega)
        have HEnd := Aside0.mk (HS2.out.ends (frac_ends HT.out (by omega) hj1 HR.out (by omega) (by omega)))
        clear ce HS2 HR
        go_wp2
        go_ret2
        exact .inl ⟨j, by omega, hj1, HEnd.out, rfl, (by repeat (first | exact Below.refl _ _ | exact HBW.out | apply pw_below_drewN))⟩
    · have HF := Aside0.mk (HS.out.bad (point_bad HT.out (by omega) h2 ci))
      have hci : rd L (cur + 1) < 48 ∨ 57 < rd L (cur + 1) := by unfold isDig at ci; omega
      clear HS ci
      go_enter Tryd.func118, Tryd.ntmps118
      go_wp2_with fail
      with_reducible refine (numberError q ad c L (cur + 1) start 8 _ (HG.out.below ?b) (HB.out.below ?b) (by omega) h2).mono ?_
      case b => exact (by repeat (first | exact Below.refl _ _ | exact HBW.out | apply pw_below_drewN))
      rintro e w3 ⟨v, rfl, hv, hb⟩
      have HV := Aside0.mk hv
      have HB3 := Aside0.mk (below_step (w := w) (by repeat (first | exact Below.refl _ _ | exact HBW.out | apply pw_below_drewN)) hb)
      clear hv hb
      go_wp2
      go_ret2
      exact .inr ⟨_, _, HF.out, rfl, HV.out, HB3.out⟩
  · have f0 : (rd L cur == 46) = false := beq_eq_false_iff_ne.mpr cd
    have HEnd0 := HEnd
    have hj1 := h1
    clear HDot HEnd hx
    have hxj := HB.out.at_ cur (by omega) hj1
    have hbj := HT.out.bytes cur (by omega) hj1
    by_cases ce : rd L cur = 101 ∨ rd L cur = 69
    · have HE0 := Aside0.mk (HExp.out ce)
      have hk1 : cur + 1 < L.length := by have := HT.out.inside (x := cur) (by omega) hj1 (by omega); omega
      have hx1 := HB.out.at_ (cur + 1) (by omega) hk1
      have hb1 := HT.out.bytes (cur + 1) (by omega) hk1
      by_cases cs : rd L (cur + 1) = 43 ∨ rd L (cur + 1) = 45
      · have HE := Aside0.mk (HE0.out.trans (e_sign HT.out (by omega) hk1 cs))
        have hk0 := hk1
        have hk1 : cur + 1 + 1 < L.length := by have := HT.out.inside (x := cur + 1) (by omega) hk0 (by omega); omega
        clear HE0
        rcases ce with ce | ce <;> rcases cs with cs | cs
        all_goals
          rw [ce] at hxj
          rw [cs] at hx1
          clear ce cs hbj hb1 HEnd0 HExp cd
          have hxk := HB.out.at_ (cur + 1 + 1) (by omega) hk1
          have hbk := HT.out.bytes (cur + 1 + 1) (by omega) hk1
          by_cases cz : isDig (rd L (cur + 1 + 1))
          · obtain ⟨d, hr, hcall⟩ := digs_at HB.out (cur + 1 + 1) (by omega) hk1
            have hdle := hr.le
            have hd1 := hr.lt
            have HE2 := Aside0.mk ((HE.out.trans (sign_dig HT.out (by omega) hk1 cz)).trans (exp_digs HT.out (by omega) (hr.from cz)))
            have HEnd := Aside0.mk (HE2.out.ends (exp_ends HT.out (by omega) hd1 hr.stop))
            have HC2 := Aside0.mk hcall
            have hcz : 48 ≤ rd L (cur + 1 + 1) ∧ rd L (cur + 1 + 1) ≤ 57 := cz
            clear hr hcall HE HE2 cz
            go_enter Tryd.func118, Tryd.ntmps118
            go_wp2_with fail
            with_reducible refine (HC2.out _ ?b).mono ?_
            case b => exact (by repeat (first | exact Below.refl _ _ | exact HBW.out | apply pw_below_drewN))
            rintro e w2 ⟨rfl, ⟨m2, rfl⟩⟩
            go_wp2
            go_ret2
            exact .inl ⟨d, by omega, hd1, HEnd.out, rfl, (by repeat (first | exact Below.refl _ _ | exact HBW.out | apply pw_below_drewN))⟩
          · have HF := Aside0.mk (HE.out.bad (sign_bad HT.out (by omega) hk1 cz))
            have hcz : rd L (cur + 1 + 1) < 48 ∨ 57 < rd L (cur + 1 + 1) := by unfold isDig at cz; omega
            clear HE cz
            go_enter Tryd.func118, Tryd.ntmps118
            go_wp2_with fail
            with_reducible refine (numberError q ad c L (cur + 1 + 1) start 9 _ (HG.out.below ?b) (HB.out.below ?b) (by omega) hk1).mono ?_
            case b => exact (by repeat (first | exact Below.refl _ _ | exact HBW.out | apply pw_below_drewN))
            rintro e w3 ⟨v, rfl, hv, hb⟩
            have HV := Aside0.mk hv
            have HB3 := Aside0.mk (below_step (w := w) (by repeat (first | exact Below.refl _ _ | exact HBW.out | apply pw_below_drewN)) hb)
            clear hv hb
            go_wp2
            go_ret2
            exact .inr ⟨_, _, HF.out, rfl, HV.out, HB3.out⟩
      · have f1 : (rd L (cur + 1) == 43) = false := beq_eq_false_iff_ne.mpr (by omega)
        have f2 : (rd L (cur + 1) == 45) = false := beq_eq_false_iff_ne.mpr (by omega)
        have HE := HE0
        have HCS := Aside0.mk (show rd L (cur + 1) ≠ 43 ∧ rd L (cur + 1) ≠ 45 by omega)
        clear HE0 cs
        rcases ce with ce | ce
        all_goals
          rw [ce] at hxj
          clear ce hbj HEnd0 HExp cd
          have hxk := HB.out.at_ (cur + 1) (by omega) hk1
          have hbk := HT.out.bytes (cur + 1) (by omega) hk1
          by_cases cz : isDig (rd L (cur + 1))
          · obtain ⟨d, hr, hcall⟩ := digs_at HB.out (cur + 1) (by omega) hk1
            have hdle := hr.le
            have hd1 := hr.lt
            have HE2 := Aside0.mk ((HE.out.trans (e_dig HT.out (by omega) hk1 cz)).trans (exp_digs HT.out (by omega) (hr.from cz)))
            have HEnd := Aside0.mk (HE2.out.ends (exp_ends HT.out (by omega) hd1 hr.stop))
            have HC2 := Aside0.mk hcall
            have hcz : 48 ≤ rd L (cur + 1) ∧ rd L (cur + 1) ≤ 57 := cz
            clear hr hcall HE HE2 cz
            go_enter Tryd.func118, Tryd.ntmps118
            go_wp2_with fail
            with_reducible refine (HC2.out _ ?b).mono ?_
            case b => exact (by repeat (first | exact Below.refl _ _ | exact HBW.out | apply pw_below_drewN))
            rintro e w2 ⟨rfl, ⟨m2, rfl⟩⟩
            go_wp2
            go_ret2
            exact .inl ⟨d, by omega, hd1, HEnd.out, rfl, (by repeat (first | exact Below.refl _ _ | exact HBW.out | apply pw_below_drewN))⟩
          · have HF := Aside0.mk (HE.out.bad (e_bad HT.out (by omega) hk1 cz HCS.out.1 HCS.out.2))
            have hcz : rd L (cur + 1) < 48 ∨ 57 < rd L (cur + 1) := by unfold isDig at cz; omega
            clear HE cz
            go_enter Tryd.func118, Tryd.ntmps118
            go_wp2_with fail
            with_reducible refine (numberError q ad c L (cur + 1) start 9 _ (HG.out.below ?b) (HB.out.below ?b) (by omega) hk1).mono ?_
            case b => exact (by repeat (first | exact Below.refl _ _ | exact HBW.out | apply pw_below_drewN))
            rintro e w3 ⟨v, rfl, hv, hb⟩
            have HV := Aside0.mk hv
            have HB3 := Aside0.mk (below_step (w := w) (by repeat (first | exact Below.refl _ _ | exact HBW.out | apply pw_below_drewN)) hb)
            clear hv hb
            go_wp2
            go_ret2
            exact .inr ⟨_, _, HF.out, rfl, HV.out, HB3.out⟩
    · have f1 : (rd L cur == 101) = false := beq_eq_false_iff_ne.mpr (by omega)
      have f2 : (rd L cur == 69) = false := beq_eq_false_iff_ne.mpr (by omega)
      have HEnd := Aside0.mk (HEnd0.out cd (by omega) (by omega))
      clear ce HEnd0 HExp cd
      go_enter Tryd.func118, Tryd.ntmps118
      go_wp2
      go_ret2
      exact .inl ⟨cur, by omega, hj1, HEnd.out, rfl, (by repeat (first | exact Below.refl _ _ | exact HBW.out | apply pw_below_drewN))⟩
end Go.Proofs.YtfkagnpdapkaaaaDoor.Err
/- A number from its first byte. -/
namespace Go.Proofs.YtfkagnpdapkaaaaDoor.Err
open Go.RowKit Go.Proofs.YtfkagnpdapkaaaaDoorW.PrintWords Go.Proofs.YtfkagnpdapkaaaaDoorW.PrintLast Go.Proofs.YtfkagnpdapkaaaaDoorW.PrintMore
open Go.Proofs.YtfkagnpdapkaaaaDoor.Tab
set_option linter.unusedVariables false
section
variable {q : ByteArray → ByteArray} {L : List Int} {x : Int}
theorem step_val (q : ByteArray → ByteArray) (c : Int) (st : List Br) (hb : ¬ isBlank c) : step q c .val st = begin_ q c st := by
  show between q c .val st = _
  unfold between
  rw [if_neg hb]
theorem val_minus (hT : Txt L) (h0 : 0 ≤ x) (h1 : x < L.length) (hd : rd L x = 45) : Same q L .val x .minus (x + 1) := same_step h0 (hT.inside h0 h1 (by omega)) (fun st => by rw [hd]; rfl) rfl
theorem val_zero (hT : Txt L) (h0 : 0 ≤ x) (h1 : x < L.length) (hd : rd L x = 48) : Same q L .val x .zero (x + 1) := same_step h0 (hT.inside h0 h1 (by omega)) (fun st => by rw [hd]; rfl) rfl
theorem val_dig (hT : Txt L) (h0 : 0 ≤ x) (h1 : x < L.length) (hd : isDig (rd L x)) (hz : rd L x ≠ 48) : Same q L .val x .whole (x + 1) := by
  refine same_step h0 (dig_next hT h0 h1 hd) (fun st => ?_) rfl
  have hd' : 48 ≤ rd L x ∧ rd L x ≤ 57 := hd
  rw [step_val q _ st (by unfold isBlank; omega)]
  unfold begin_
  rw [if_neg (by omega), if_neg (by omega), if_neg (by omega), if_neg (by omega), if_neg hz, if_pos hd]
end
theorem rest_zero (q : ByteArray → ByteArray) (ad : Addr) (c : Nat) (L : List Int) (start cur : Int) (w : World) (hG : G q w) (hB : Buf w ad c L) (h0 : 0 ≤ cur) (h1 : cur < L.length) : Calls Tryd.prog 118 #[.slice (some ad) L.length c, .int .i64 start, .int .i64 cur] w (TellsP q L .zero cur w) :=
  skipNumberRest q ad c L start cur .zero w hG hB h0 h1 (fun h => zero_dot hB.txt h0 h1 h) (fun h => zero_e hB.txt h0 h1 h) (fun a b d => zero_ends hB.txt h0 h1 a b d)
theorem rest_whole (q : ByteArray → ByteArray) (ad : Addr) (c : Nat) (L : List Int) (start cur : Int) (w : World) (hG : G q w) (hB : Buf w ad c L) (h0 : 0 ≤ cur) (h1 : cur < L.length) (hd : ¬ isDig (rd L cur)) : Calls Tryd.prog 118 #[.slice (some ad) L.length c, .int .i64 start, .int .i64 cur] w (TellsP q L .whole cur w) :=
  skipNumberRest q ad c L start cur .whole w hG hB h0 h1 (fun h => whole_dot hB.txt h0 h1 h) (fun h => whole_e hB.txt h0 h1 h) (fun a b d => whole_ends hB.txt h0 h1 hd a b d)
set_option maxRecDepth 100000 in
set_option maxHeartbeats 8000000 in
theorem skipNumber (q : ByteArray → ByteArray) (ad : Addr) (c : Nat) (L : List Int) (cur : Int) (w : World) (hG : G q w) (hB : Buf w ad c L) (h0 : 0 ≤ cur) (h1 : cur < L.length) (hn : rd L cur = 45 ∨ isDig (rd L cur)) :
    Calls Tryd.prog 119 #[.slice (some ad) L.length c, .int .i64 cur] w (TellsP q L .val cur w) := by
  have HT := Aside0.mk hB.txt
  have hsm := hB.small
  have HB := Aside0.mk hB
  have HG := Aside0.mk hG
  have hx := hB.at_ cur h0 h1
  have hby := hB.byte cur h0 h1
  clear hB hG
  by_cases cm : rd L cur = 45
  · have HS := Aside0.mk (val_minus (q := q) HT.out h0 h1 cm)
    have hk1 : cur + 1 < L.length := by have := HT.out.inside h0 h1 (by omega); omega
    have hxk := HB.out.at_ (cur + 1) (by omega) hk1
    have hbk := HT.out.bytes (cur + 1) (by omega) hk1
    rw [cm] at hx
    clear cm hn
    by_cases cz : rd L (cur + 1) = 48
    · have HS2 := Aside0.mk (HS.out.trans (minus_zero HT.out (by omega) hk1 cz))
      have hk2 : cur + 1 + 1 < L.length := by have := HT.out.inside (x := cur + 1) (by omega) hk1 (by omega); omega
      rw [cz] at hxk
      clear HS cz 
      go_enter Tryd.func119, Tryd.ntmps119
      go_wp2_with fail
      with_reducible refine (rest_zero q ad c L cur (cur + 1 + 1) _ (HG.out.below ?b) (HB.out.below ?b) (by omega) hk2).mono ?_
      case b => exact (by repeat (first | exact Below.refl _ _ | exact HBW.out | apply pw_below_drewN))
      intro e w2 hp
      have HP := Aside0.mk (hp.from (w := w) HS2.out (by omega) (by repeat (first | exact Below.refl _ _ | exact HBW.out | apply pw_below_drewN)))
      clear hp
      obtain ⟨d, h1, h2, h3, rfl, h5⟩ | ⟨s, v, h1, rfl, h3, h4⟩ := HP.out
      all_goals
        clear h1
        go_wp2
        go_ret2
        exact HP.out
    by_cases cd : isDig (rd L (cur + 1))
    · obtain ⟨j, hr, hcall⟩ := digs_at HB.out (cur + 1 + 1) (by omega) (by have := dig_next HT.out (by omega) hk1 cd; omega)
      have hle := hr.le
      have hj1 := hr.lt
      have HS2 := Aside0.mk ((HS.out.trans (minus_dig HT.out (by omega) hk1 cd cz)).trans (whole_digs HT.out (by omega) hr))
      have HR := Aside0.mk hr.stop
      have HC := Aside0.mk hcall
      have f1 : (rd L (cur + 1) == 48) = false := beq_eq_false_iff_ne.mpr cz
      have hcd : 49 ≤ rd L (cur + 1) ∧ rd L (cur + 1) ≤ 57 := by unfold isDig at cd; omega
      clear HS cz cd hr hcall 
      go_enter Tryd.func119, Tryd.ntmps119
      go_wp2_with fail
      with_reducible refine (HC.out _ ?b).mono ?_
      case b => exact (by repeat (first | exact Below.refl _ _ | exact HBW.out | apply pw_below_drewN))
      rintro e w1 ⟨rfl, ⟨m, rfl⟩⟩
      go_wp2_with fail
      with_reducible refine (rest_whole q ad c L cur j _ (HG.out.below ?b) (HB.out.below ?b) (by omega) hj1 HR.out).mono ?_
      case b => exact (by repeat (first | exact Below.refl _ _ | exact HBW.out | apply pw_below_drewN))
      intro e w2 hp
      have HP := Aside0.mk (hp.from (w := w) HS2.out (by omega) (by repeat (first | exact Below.refl _ _ | exact HBW.out | apply pw_below_drewN)))
      clear hp
      obtain ⟨d, h1, h2, h3, rfl, h5⟩ | ⟨s, v, h1, rfl, h3, h4⟩ := HP.out
      all_goals
        clear h1
        go_wp2
        go_ret2
        exact HP.out
    · have HF := Aside0.mk (HS.out.bad (minus_bad HT.out (by omega) hk1 cd))
      have f1 : (rd L (cur + 1) == 48) = false := beq_eq_false_iff_ne.mpr cz
      have hcd : rd L (cur + 1) < 49 ∨ 57 < rd L (cur + 1) := by unfold isDig at cd; omega
      clear HS cz cd
      go_enter Tryd.func119, Tryd.ntmps119
      go_wp2_with fail
      with_reducible refine (numberError q ad c L (cur + 1) cur 7 _ (HG.out.below ?b) (HB.out.below ?b) (by omega) hk1).mono ?_
      case b => exact (by repeat (first | exact Below.refl _ _ | exact HBW.out | apply pw_below_drewN))
      rintro e w3 ⟨v, rfl, hv, hb⟩
      have HV := Aside0.mk hv
      have HB3 := Aside0.mk (below_step (w := w) (by repeat (first | exact Below.refl _ _ | exact HBW.out | apply pw_below_drewN)) hb)
      clear hv hb
      go_wp2
      go_ret2
      exact .inr ⟨_, _, HF.out, rfl, HV.out, HB3.out⟩
  · have f0 : (rd L cur == 45) = false := beq_eq_false_iff_ne.mpr cm
    have hdg : isDig (rd L cur) := hn.resolve_left cm
    have HS := Aside0.mk (Same.refl (q := q) (L := L) (ph := .val) (i := cur))
    have hk1 := h1
    have hxk := hx
    have hbk := hby
    clear hn cm hx
    by_cases cz : rd L (cur) = 48
    · have HS2 := Aside0.mk (HS.out.trans (val_zero HT.out (by omega) hk1 cz))
      have hk2 : cur + 1 < L.length := by have := HT.out.inside (x := cur) (by omega) hk1 (by omega); omega
      rw [cz] at hxk
      clear HS cz hdg
      go_enter Tryd.func119, Tryd.ntmps119
      go_wp2_with fail
      with_reducible refine (rest_zero q ad c L cur (cur + 1) _ (HG.out.below ?b) (HB.out.below ?b) (by omega) hk2).mono ?_
      case b => exact (by repeat (first | exact Below.refl _ _ | exact HBW.out | apply pw_below_drewN))
      intro e w2 hp
      have HP := Aside0.mk (hp.from (w := w) HS2.out (by omega) (by repeat (first | exact Below.refl _ _ | exact HBW.out | apply pw_below_drewN)))
      clear hp
      obtain ⟨d, h1, h2, h3, rfl, h5⟩ | ⟨s, v, h1, rfl, h3, h4⟩ := HP.out
      all_goals
        clear h1
        go_wp2
        go_ret2
        exact HP.out
    by_cases cd : isDig (rd L (cur))
    · obtain ⟨j, hr, hcall⟩ := digs_at HB.out (cur + 1) (by omega) (by have := dig_next HT.out (by omega) hk1 cd; omega)
      have hle := hr.le
      have hj1 := hr.lt
      have HS2 := Aside0.mk ((HS.out.trans (val_dig HT.out (by omega) hk1 cd cz)).trans (whole_digs HT.out (by omega) hr))
      have HR := Aside0.mk hr.stop
      have HC := Aside0.mk hcall
      have f1 : (rd L (cur) == 48) = false := beq_eq_false_iff_ne.mpr cz
      have hcd : 49 ≤ rd L (cur) ∧ rd L (cur) ≤ 57 := by unfold isDig at cd; omega
      clear HS cz cd hr hcall hdg
      go_enter Tryd.func119, Tryd.ntmps119
      go_wp2_with fail
      with_reducible refine (HC.out _ ?b).mono ?_
      case b => exact (by repeat (first | exact Below.refl _ _ | exact HBW.out | apply pw_below_drewN))
      rintro e w1 ⟨rfl, ⟨m, rfl⟩⟩
      go_wp2_with fail
      with_reducible refine (rest_whole q ad c L cur j _ (HG.out.below ?b) (HB.out.below ?b) (by omega) hj1 HR.out).mono ?_
      case b => exact (by repeat (first | exact Below.refl _ _ | exact HBW.out | apply pw_below_drewN))
      intro e w2 hp
      have HP := Aside0.mk (hp.from (w := w) HS2.out (by omega) (by repeat (first | exact Below.refl _ _ | exact HBW.out | apply pw_below_drewN)))
      clear hp
      obtain ⟨d, h1, h2, h3, rfl, h5⟩ | ⟨s, v, h1, rfl, h3, h4⟩ := HP.out
      all_goals
        clear h1
        go_wp2
        go_ret2
        exact HP.out
    · exact absurd hdg cd
end Go.Proofs.YtfkagnpdapkaaaaDoor.Err
/- What the scanner tells between values. -/
namespace Go.Proofs.YtfkagnpdapkaaaaDoor.Err
open Go.RowKit Go.Proofs.YtfkagnpdapkaaaaDoorW.PrintWords Go.Proofs.YtfkagnpdapkaaaaDoorW.PrintLast Go.Proofs.YtfkagnpdapkaaaaDoorW.PrintMore
set_option linter.unusedVariables false
/-- The first byte of a word that differs, behind the first one. -/
structure Mis (L : List Int) (cur : Int) (l : List Int) (k : Nat) : Prop where
  one : 1 ≤ k
  lt : k < l.length
  in_ : cur + k < L.length
  all : ∀ j : Nat, 1 ≤ j → j < k → rd L (cur + j) = l.getD j 0
  ne : rd L (cur + k) ≠ l.getD k 0
/-- Where white space may stand. -/
def airy : Ph → Bool
  | .val | .item0 | .name0 | .name | .colon | .memb | .item => true
  | _ => false
theorem step_airy {ph : Ph} (q : ByteArray → ByteArray) (c : Int) (st : List Br) (h : airy ph = true) : step q c ph st = between q c ph st := by
  cases ph <;> first | rfl | cases h
theorem airy_all {ph : Ph} (h : airy ph = true) : isAll ph = false ∧ ender ph [] = false ∧ ∀ st, ender ph st = false := by
  cases ph <;> first | exact ⟨rfl, rfl, fun _ => rfl⟩ | cases h
theorem closed_airy (st : List Br) (h : st ≠ []) : airy (closed st).1 = true := by
  match st, h with
  | .obj :: r, _ => rfl
  | .arr :: r, _ => rfl
  | .key :: r, _ => rfl
section
variable {q : ByteArray → ByteArray} {L : List Int} {ph : Ph} {i j x : Int} {st : List Br}
theorem ws_same (hT : Txt L) (ha : airy ph = true) : ∀ n : Nat, ∀ i : Int, 0 ≤ i → RunTo isBlank L i j → j - i = n → Same q L ph i ph j := by
  intro n
  induction n with
  | zero => intro i h0 hr hn; rw [show j = i by omega]; exact Same.refl
  | succ n ih =>
    intro i h0 hr hn
    have hb := hr.all i (Int.le_refl _) (by omega)
    have hlt := hr.lt
    have hin := hT.inside h0 (by omega) (by unfold isBlank at hb; omega)
    refine Same.trans (same_step h0 hin (fun st => ?_) (airy_all ha).1) (ih (i + 1) (by omega) (hr.from hb) (by omega))
    rw [step_airy q _ st ha]
    unfold between
    rw [if_pos hb]
theorem ws_out (hT : Txt L) (ha : airy ph = true) (h0 : 0 ≤ i) (hr : RunTo isBlank L i j) (st : List Br) : out q L ph st i = out q L ph st j :=
  ws_same hT ha (j - i).toNat i h0 hr (by have := hr.le; omega) st
theorem blank_out (hT : Txt L) (ha : airy ph = true) (h0 : 0 ≤ x) (h1 : x < L.length) (hb : isBlank (rd L x)) (st : List Br) : out q L ph st x = out q L ph st (x + 1) := by
  refine out_step h0 (hT.inside h0 h1 (by unfold isBlank at hb; omega)) ?_ (airy_all ha).1
  rw [step_airy q _ st ha]
  unfold between
  rw [if_pos hb]
/-- A step of what is not white space. -/
theorem air_ok {ph' : Ph} {st' : List Br} (hT : Txt L) (ha : airy ph = true) (h0 : 0 ≤ x) (h1 : x < (L.length : Int) - 1) (hs : between q (rd L x) ph st = .ok (ph', st')) (hal : isAll ph' = false) : out q L ph st x = out q L ph' st' (x + 1) :=
  out_step h0 h1 (by rw [step_airy q _ st ha]; exact hs) hal
/-- A bracket that shuts what is open. -/
theorem air_shut (hT : Txt L) (ha : airy ph = true) (h0 : 0 ≤ x) (h1 : x < (L.length : Int) - 1) (hs : between q (rd L x) ph st = .ok (closed st.tail)) : out q L ph st x = contO q L st.tail (x + 1) := by
  rw [out_at q L ph st x h0 h1, step_airy q _ st ha, hs]
  simp only [(airy_all ha).2.2 st]
  rfl
/-- A byte that cannot stand there. -/
theorem air_bad (k : Int) (b : Bool) (hT : Txt L) (ha : airy ph = true) (h0 : 0 ≤ x) (h1 : x < L.length) (hs : between q (rd L x) ph st = .error (badWords q (rd L x) (whereWords k), b)) (hb : b = true ↔ k = 0) : out q L ph st x = .fault (faultAt q L x k) := by
  unfold faultAt
  by_cases h : x = (L.length : Int) - 1
  · rw [out_stop hT h ((airy_all ha).2.2 st), if_pos h]
    unfold endF
    rw [step_airy q _ st ha]
    unfold between
    rw [if_pos (by decide)]
  · rw [out_err h0 (by omega) (by rw [step_airy q _ st ha]; exact hs) ((airy_all ha).2.2 st), if_neg h]
    congr 2
    by_cases hk : k = 0
    · rw [if_pos (hb.mpr hk), if_pos hk]
    · rw [if_neg (fun h => hk (hb.mp h)), if_neg hk]
end
end Go.Proofs.YtfkagnpdapkaaaaDoor.Err
/- The fault of a word: its first byte that differs. -/
namespace Go.Proofs.YtfkagnpdapkaaaaDoor.Err
open Go.RowKit Go.Proofs.YtfkagnpdapkaaaaDoorW.PrintWords Go.Proofs.YtfkagnpdapkaaaaDoorW.PrintLast Go.Proofs.YtfkagnpdapkaaaaDoorW.PrintMore
open Go.Proofs.YtfkagnpdapkaaaaDoor.Tab
set_option linter.unusedVariables false
set_option maxRecDepth 100000 in
set_option maxHeartbeats 8000000 in
theorem litTrue (q : ByteArray → ByteArray) (ad : Addr) (c : Nat) (L : List Int) (cur : Int) (k : Nat) (w : World) (hG : G q w) (hB : Buf w ad c L) (h0 : 0 ≤ cur) (hm : Mis L cur lTrue k) :
    Calls Tryd.prog 120 #[.slice (some ad) L.length c, .int .i64 cur, .string ⟨#[116, 114, 117, 101]⟩] w (Gives w (scalarF q L (cur + k) (litWhat q lTrue k))) := by
  have hsm := hB.small
  have hps := hB.pos
  have hk1 := hm.one
  have hk2 : k < 4 := hm.lt
  have hk3 := hm.in_
  have HT := Aside0.mk hB.txt
  have HB := Aside0.mk hB
  have HG := Aside0.mk hG
  have HM := Aside0.mk hm
  clear hB hG hm
  obtain ⟨S, hS⟩ : ∃ S, S = scalarF q L (cur + k) (litWhat q lTrue k) := ⟨_, rfl⟩
  rw [← hS]
  have HS := Aside0.mk hS
  clear hS
  go_enter Tryd.func120, Tryd.ntmps120
  go_wp2
  go_loopg [7] (4) (fun kq v1 w' => ∃ (i : Int), v1 = .int .i64 i ∧ Aside0 (1 ≤ i ∧ i ≤ k ∧ i + kq = 5) ∧ Drawn0 w w')
  case atStart => exact ⟨1, rfl, ⟨by omega, by omega, by omega⟩, by repeat (first | exact Drawn0.refl _ | apply Drawn0.step)⟩
  case round =>
    obtain ⟨i, rfl, HA, ⟨m, rfl⟩⟩ := hrel
    obtain ⟨hi1, hi2, hi3⟩ := HA.out
    clear HA
    have hia : cur + i < L.length := by omega
    have hx := HB.out.at_ (cur + i) (by omega) hia
    have hby := HT.out.bytes (cur + i) (by omega) hia
    by_cases hik : i = k
    · have hcall := fun W (hb : Below w.heap.size w W) => isEnd ad c L (cur + i) W (HB.out.below hb) (by omega) hia
      have HC := Aside0.mk hcall
      clear hcall
      have hcs : i = 1 ∨ i = 2 ∨ i = 3 := by omega
      rcases hcs with rfl | rfl | rfl
      · obtain rfl : k = 1 := by omega
        have hne : rd L (cur + 1) ≠ 114 := HM.out.ne
        have HF := Aside0.mk (show cur + 1 = (L.length : Int) - 1 → S = ⟨badWords q 32 (litWhat q lTrue 1), cur + 1, true, 0⟩ from fun hc => by rw [HS.out]; unfold scalarF; exact if_pos hc)
        have HF2 := Aside0.mk (show ¬ (cur + 1 = (L.length : Int) - 1) → S = ⟨badWords q (rd L (cur + 1)) (litWhat q lTrue 1), cur + 1 + 1, false, 0⟩ from fun hc => by rw [HS.out]; unfold scalarF; exact if_neg hc)
        have f1 : (rd L (cur + 1) == 114) = false := beq_eq_false_iff_ne.mpr hne
        have f2 : (rd L (cur + 1) != 114) = true := bne_iff_ne.mpr hne
        have hs := quoted_size q 114 w HG.out (by decide) (by decide)
        clear hne hik hi1 hi2 hi3 hk1
        have hch : ∀ h, ((⟨#[116, 114, 117, 101]⟩ : ByteArray)[1]'h).toNat = 114 := fun _ => rfl
        go_wp2_with fail
        with_reducible refine (quoteChar q 114 _ (HG.out.below ?b) (by decide) (by decide)).mono ?_
        case b => exact (by repeat (first | exact Below.refl _ _ | exact HBW.out | apply pw_below_drewN))
        rintro e w2 ⟨rfl, hb⟩
        have HBW := Aside0.mk (below_step (w := w) (by repeat (first | exact Below.refl _ _ | exact HBW.out | apply pw_below_drewN)) hb)
        clear hb
        by_cases hc : cur + (1 : Int) = (L.length : Int) - 1
        · have HF' := Aside0.mk (HF.out hc)
          have hcall := HC.out w2 HBW.out
          rw [decide_eq_true hc] at hcall
          have HC2 := Aside0.mk hcall
          clear hcall hc HC HF HF2
          go_wp2_with fail
          with_reducible refine HC2.out.mono ?_
          rintro e w3 ⟨rfl, ⟨m3, rfl⟩⟩
          go_wp2_with fail
          with_reducible refine (scalarEnd (q := q) _ _ _ _ _ (HG.out.below ?b) ?sz).mono ?_
          case b => exact (by repeat (first | exact Below.refl _ _ | exact HBW.out | apply pw_below_drewN))
          case sz => simp only [ByteArray.size_append]; have e1 : (⟨#[116, 114, 117, 101]⟩ : ByteArray).size = 4 := rfl; have e2 : (⟨#[105, 110, 32, 108, 105, 116, 101, 114, 97, 108, 32]⟩ : ByteArray).size = 11 := rfl; have e3 : (⟨#[32, 40, 101, 120, 112, 101, 99, 116, 105, 110, 103, 32]⟩ : ByteArray).size = 12 := rfl; have e4 : (⟨#[41]⟩ : ByteArray).size = 1 := rfl; omega
          rintro e w3 ⟨v, rfl, hv, hb⟩
          have HV := Aside0.mk hv
          have HB3 := Aside0.mk (below_step (w := w) (by repeat (first | exact Below.refl _ _ | exact HBW.out | apply pw_below_drewN)) hb)
          clear hv hb
          go_wp2
          go_ret
          rw [HF'.out]
          exact ⟨_, rfl, HV.out, HB3.out⟩
        · have HF' := Aside0.mk (HF2.out hc)
          have hcall := HC.out w2 HBW.out
          rw [decide_eq_false hc] at hcall
          have HC2 := Aside0.mk hcall
          clear hcall hc HC HF HF2
          go_wp2_with fail
          with_reducible refine HC2.out.mono ?_
          rintro e w3 ⟨rfl, ⟨m3, rfl⟩⟩
          go_wp2_with fail
          with_reducible refine (invalidCharacter q ad c L _ _ _ (HG.out.below ?b) (HB.out.below ?b) (by omega) hia ?sz).mono ?_
          case b => exact (by repeat (first | exact Below.refl _ _ | exact HBW.out | apply pw_below_drewN))
          case sz => simp only [ByteArray.size_append]; have e1 : (⟨#[116, 114, 117, 101]⟩ : ByteArray).size = 4 := rfl; have e2 : (⟨#[105, 110, 32, 108, 105, 116, 101, 114, 97, 108, 32]⟩ : ByteArray).size = 11 := rfl; have e3 : (⟨#[32, 40, 101, 120, 112, 101, 99, 116, 105, 110, 103, 32]⟩ : ByteArray).size = 12 := rfl; have e4 : (⟨#[41]⟩ : ByteArray).size = 1 := rfl; omega
          rintro e w3 ⟨g, rfl, hg, hp, hb⟩
          have HP := Aside0.mk hp
          have HB3 := Aside0.mk (below_step (w := w) (by repeat (first | exact Below.refl _ _ | exact HBW.out | apply pw_below_drewN)) hb)
          clear hp hb hg
          go_wp2
          go_ret
          rw [HF'.out]
          exact ⟨_, rfl, ⟨g, rfl, HP.out⟩, HB3.out⟩
      · obtain rfl : k = 2 := by omega
        have hne : rd L (cur + 2) ≠ 117 := HM.out.ne
        have HF := Aside0.mk (show cur + 2 = (L.length : Int) - 1 → S = ⟨badWords q 32 (litWhat q lTrue 2), cur + 2, true, 0⟩ from fun hc => by rw [HS.out]; unfold scalarF; exact if_pos hc)
        have HF2 := Aside0.mk (show ¬ (cur + 2 = (L.length : Int) - 1) → S = ⟨badWords q (rd L (cur + 2)) (litWhat q lTrue 2), cur + 2 + 1, false, 0⟩ from fun hc => by rw [HS.out]; unfold scalarF; exact if_neg hc)
        have f1 : (rd L (cur + 2) == 117) = false := beq_eq_false_iff_ne.mpr hne
        have f2 : (rd L (cur + 2) != 117) = true := bne_iff_ne.mpr hne
        have hs := quoted_size q 117 w HG.out (by decide) (by decide)
        clear hne hik hi1 hi2 hi3 hk1
        have hch : ∀ h, ((⟨#[116, 114, 117, 101]⟩ : ByteArray)[2]'h).toNat = 117 := fun _ => rfl
        go_wp2_with fail
        with_reducible refine (quoteChar q 117 _ (HG.out.below ?b) (by decide) (by decide)).mono ?_
        case b => exact (by repeat (first | exact Below.refl _ _ | exact HBW.out | apply pw_below_drewN))
        rintro e w2 ⟨rfl, hb⟩
        have HBW := Aside0.mk (below_step (w := w) (by repeat (first | exact Below.refl _ _ | exact HBW.out | apply pw_below_drewN)) hb)
        clear hb
        by_cases hc : cur + (2 : Int) = (L.length : Int) - 1
        · have HF' := Aside0.mk (HF.out hc)
          have hcall := HC.out w2 HBW.out
          rw [decide_eq_true hc] at hcall
          have HC2 := Aside0.mk hcall
          clear hcall hc HC HF HF2
          go_wp2_with fail
          with_reducible refine HC2.out.mono ?_
          rintro e w3 ⟨rfl, ⟨m3, rfl⟩⟩
          go_wp2_with fail
          with_reducible refine (scalarEnd (q := q) _ _ _ _ _ (HG.out.below ?b) ?sz).mono ?_
          case b => exact (by repeat (first | exact Below.refl _ _ | exact HBW.out | apply pw_below_drewN))
          case sz => simp only [ByteArray.size_append]; have e1 : (⟨#[116, 114, 117, 101]⟩ : ByteArray).size = 4 := rfl; have e2 : (⟨#[105, 110, 32, 108, 105, 116, 101, 114, 97, 108, 32]⟩ : ByteArray).size = 11 := rfl; have e3 : (⟨#[32, 40, 101, 120, 112, 101, 99, 116, 105, 110, 103, 32]⟩ : ByteArray).size = 12 := rfl; have e4 : (⟨#[41]⟩ : ByteArray).size = 1 := rfl; omega
          rintro e w3 ⟨v, rfl, hv, hb⟩
          have HV := Aside0.mk hv
          have HB3 := Aside0.mk (below_step (w := w) (by repeat (first | exact Below.refl _ _ | exact HBW.out | apply pw_below_drewN)) hb)
          clear hv hb
          go_wp2
          go_ret
          rw [HF'.out]
          exact ⟨_, rfl, HV.out, HB3.out⟩
        · have HF' := Aside0.mk (HF2.out hc)
          have hcall := HC.out w2 HBW.out
          rw [decide_eq_false hc] at hcall
          have HC2 := Aside0.mk hcall
          clear hcall hc HC HF HF2
          go_wp2_with fail
          with_reducible refine HC2.out.mono ?_
          rintro e w3 ⟨rfl, ⟨m3, rfl⟩⟩
          go_wp2_with fail
          with_reducible refine (invalidCharacter q ad c L _ _ _ (HG.out.below ?b) (HB.out.below ?b) (by omega) hia ?sz).mono ?_
          case b => exact (by repeat (first | exact Below.refl _ _ | exact HBW.out | apply pw_below_drewN))
          case sz => simp only [ByteArray.size_append]; have e1 : (⟨#[116, 114, 117, 101]⟩ : ByteArray).size = 4 := rfl; have e2 : (⟨#[105, 110, 32, 108, 105, 116, 101, 114, 97, 108, 32]⟩ : ByteArray).size = 11 := rfl; have e3 : (⟨#[32, 40, 101, 120, 112, 101, 99, 116, 105, 110, 103, 32]⟩ : ByteArray).size = 12 := rfl; have e4 : (⟨#[41]⟩ : ByteArray).size = 1 := rfl; omega
          rintro e w3 ⟨g, rfl, hg, hp, hb⟩
          have HP := Aside0.mk hp
          have HB3 := Aside0.mk (below_step (w := w) (by repeat (first | exact Below.refl _ _ | exact HBW.out | apply pw_below_drewN)) hb)
          clear hp hb hg
          go_wp2
          go_ret
          rw [HF'.out]
          exact ⟨_, rfl, ⟨g, rfl, HP.out⟩, HB3.out⟩
      · obtain rfl : k = 3 := by omega
        have hne : rd L (cur + 3) ≠ 101 := HM.out.ne
        have HF := Aside0.mk (show cur + 3 = (L.length : Int) - 1 → S = ⟨badWords q 32 (litWhat q lTrue 3), cur + 3, true, 0⟩ from fun hc => by rw [HS.out]; unfold scalarF; exact if_pos hc)
        have HF2 := Aside0.mk (show ¬ (cur + 3 = (L.length : Int) - 1) → S = ⟨badWords q (rd L (cur + 3)) (litWhat q lTrue 3), cur + 3 + 1, false, 0⟩ from fun hc => by rw [HS.out]; unfold scalarF; exact if_neg hc)
        have f1 : (rd L (cur + 3) == 101) = false := beq_eq_false_iff_ne.mpr hne
        have f2 : (rd L (cur + 3) != 101) = true := bne_iff_ne.mpr hne
        have hs := quoted_size q 101 w HG.out (by decide) (by decide)
        clear hne hik hi1 hi2 hi3 hk1
        have hch : ∀ h, ((⟨#[116, 114, 117, 101]⟩ : ByteArray)[3]'h).toNat = 101 := fun _ => rfl
        go_wp2_with fail
        with_reducible refine (quoteChar q 101 _ (HG.out.below ?b) (by decide) (by decide)).mono ?_
        case b => exact (by repeat (first | exact Below.refl _ _ | exact HBW.out | apply pw_below_drewN))
        rintro e w2 ⟨rfl, hb⟩
        have HBW := Aside0.mk (below_step (w := w) (by repeat (first | exact Below.refl _ _ | exact HBW.out | apply pw_below_drewN)) hb)
        clear hb
        by_cases hc : cur + (3 : Int) = (L.length : Int) - 1
        · have HF' := Aside0.mk (HF.out hc)
          have hcall := HC.out w2 HBW.out
          rw [decide_eq_true hc] at hcall
          have HC2 := Aside0.mk hcall
          clear hcall hc HC HF HF2
          go_wp2_with fail
          with_reducible refine HC2.out.mono ?_
          rintro e w3 ⟨rfl, ⟨m3, rfl⟩⟩
          go_wp2_with fail
          with_reducible refine (scalarEnd (q := q) _ _ _ _ _ (HG.out.below ?b) ?sz).mono ?_
          case b => exact (by repeat (first | exact Below.refl _ _ | exact HBW.out | apply pw_below_drewN))
          case sz => simp only [ByteArray.size_append]; have e1 : (⟨#[116, 114, 117, 101]⟩ : ByteArray).size = 4 := rfl; have e2 : (⟨#[105, 110, 32, 108, 105, 116, 101, 114, 97, 108, 32]⟩ : ByteArray).size = 11 := rfl; have e3 : (⟨#[32, 40, 101, 120, 112, 101, 99, 116, 105, 110, 103, 32]⟩ : ByteArray).size = 12 := rfl; have e4 : (⟨#[41]⟩ : ByteArray).size = 1 := rfl; omega
          rintro e w3 ⟨v, rfl, hv, hb⟩
          have HV := Aside0.mk hv
          have HB3 := Aside0.mk (below_step (w := w) (by repeat (first | exact Below.refl _ _ | exact HBW.out | apply pw_below_drewN)) hb)
          clear hv hb
          go_wp2
          go_ret
          rw [HF'.out]
          exact ⟨_, rfl, HV.out, HB3.out⟩
        · have HF' := Aside0.mk (HF2.out hc)
          have hcall := HC.out w2 HBW.out
          rw [decide_eq_false hc] at hcall
          have HC2 := Aside0.mk hcall
          clear hcall hc HC HF HF2
          go_wp2_with fail
          with_reducible refine HC2.out.mono ?_
          rintro e w3 ⟨rfl, ⟨m3, rfl⟩⟩
          go_wp2_with fail
          with_reducible refine (invalidCharacter q ad c L _ _ _ (HG.out.below ?b) (HB.out.below ?b) (by omega) hia ?sz).mono ?_
          case b => exact (by repeat (first | exact Below.refl _ _ | exact HBW.out | apply pw_below_drewN))
          case sz => simp only [ByteArray.size_append]; have e1 : (⟨#[116, 114, 117, 101]⟩ : ByteArray).size = 4 := rfl; have e2 : (⟨#[105, 110, 32, 108, 105, 116, 101, 114, 97, 108, 32]⟩ : ByteArray).size = 11 := rfl; have e3 : (⟨#[32, 40, 101, 120, 112, 101, 99, 116, 105, 110, 103, 32]⟩ : ByteArray).size = 12 := rfl; have e4 : (⟨#[41]⟩ : ByteArray).size = 1 := rfl; omega
          rintro e w3 ⟨g, rfl, hg, hp, hb⟩
          have HP := Aside0.mk hp
          have HB3 := Aside0.mk (below_step (w := w) (by repeat (first | exact Below.refl _ _ | exact HBW.out | apply pw_below_drewN)) hb)
          clear hp hb hg
          go_wp2
          go_ret
          rw [HF'.out]
          exact ⟨_, rfl, ⟨g, rfl, HP.out⟩, HB3.out⟩
    · obtain _ | g0 := gk
      · exfalso; omega
      have hcs : i = 1 ∨ i = 2 ∨ i = 3 := by omega
      rcases hcs with rfl | rfl | rfl
      · have heq' : rd L (cur + 1) = 114 := HM.out.all 1 (by decide) (by omega)
        rw [heq'] at hx
        clear heq' hby
        have hch : ∀ h, ((⟨#[116, 114, 117, 101]⟩ : ByteArray)[1]'h).toNat = 114 := fun _ => rfl
        go_wp2
        go_roundg g0
        case measure => omega
        case rel => exact ⟨2, rfl, ⟨by omega, by omega, by omega⟩, by repeat (first | exact Drawn0.refl _ | apply Drawn0.step)⟩
      · have heq' : rd L (cur + 2) = 117 := HM.out.all 2 (by decide) (by omega)
        rw [heq'] at hx
        clear heq' hby
        have hch : ∀ h, ((⟨#[116, 114, 117, 101]⟩ : ByteArray)[2]'h).toNat = 117 := fun _ => rfl
        go_wp2
        go_roundg g0
        case measure => omega
        case rel => exact ⟨3, rfl, ⟨by omega, by omega, by omega⟩, by repeat (first | exact Drawn0.refl _ | apply Drawn0.step)⟩
      · exfalso; omega
set_option maxRecDepth 100000 in
set_option maxHeartbeats 8000000 in
theorem litFalse (q : ByteArray → ByteArray) (ad : Addr) (c : Nat) (L : List Int) (cur : Int) (k : Nat) (w : World) (hG : G q w) (hB : Buf w ad c L) (h0 : 0 ≤ cur) (hm : Mis L cur lFalse k) :
    Calls Tryd.prog 120 #[.slice (some ad) L.length c, .int .i64 cur, .string ⟨#[102, 97, 108, 115, 101]⟩] w (Gives w (scalarF q L (cur + k) (litWhat q lFalse k))) := by
  have hsm := hB.small
  have hps := hB.pos
  have hk1 := hm.one
  have hk2 : k < 5 := hm.lt
  have hk3 := hm.in_
  have HT := Aside0.mk hB.txt
  have HB := Aside0.mk hB
  have HG := Aside0.mk hG
  have HM := Aside0.mk hm
  clear hB hG hm
  obtain ⟨S, hS⟩ : ∃ S, S = scalarF q L (cur + k) (litWhat q lFalse k) := ⟨_, rfl⟩
  rw [← hS]
  have HS := Aside0.mk hS
  clear hS
  go_enter Tryd.func120, Tryd.ntmps120
  go_wp2
  go_loopg [7] (5) (fun kq v1 w' => ∃ (i : Int), v1 = .int .i64 i ∧ Aside0 (1 ≤ i ∧ i ≤ k ∧ i + kq = 6) ∧ Drawn0 w w')
  case atStart => exact ⟨1, rfl, ⟨by omega, by omega, by omega⟩, by repeat (first | exact Drawn0.refl _ | apply Drawn0.step)⟩
  case round =>
    obtain ⟨i, rfl, HA, ⟨m, rfl⟩⟩ := hrel
    obtain ⟨hi1, hi2, hi3⟩ := HA.out
    clear HA
    have hia : cur + i < L.length := by omega
    have hx := HB.out.at_ (cur + i) (by omega) hia
    have hby := HT.out.bytes (cur + i) (by omega) hia
    by_cases hik : i = k
    · have hcall := fun W (hb : Below w.heap.size w W) => isEnd ad c L (cur + i) W (HB.out.below hb) (by omega) hia
      have HC := Aside0.mk hcall
      clear hcall
      have hcs : i = 1 ∨ i = 2 ∨ i = 3 ∨ i = 4 := by omega
      rcases hcs with rfl | rfl | rfl | rfl
      · obtain rfl : k = 1 := by omega
        have hne : rd L (cur + 1) ≠ 97 := HM.out.ne
        have HF := Aside0.mk (show cur + 1 = (L.length : Int) - 1 → S = ⟨badWords q 32 (litWhat q lFalse 1), cur + 1, true, 0⟩ from fun hc => by rw [HS.out]; unfold scalarF; exact if_pos hc)
        have HF2 := Aside0.mk (show ¬ (cur + 1 = (L.length : Int) - 1) → S = ⟨badWords q (rd L (cur + 1)) (litWhat q lFalse 1), cur + 1 + 1, false, 0⟩ from fun hc => by rw [HS.out]; unfold scalarF; exact if_neg hc)
        have f1 : (rd L (cur + 1) == 97) = false := beq_eq_false_iff_ne.mpr hne
        have f2 : (rd L (cur + 1) != 97) = true := bne_iff_ne.mpr hne
        have hs := quoted_size q 97 w HG.out (by decide) (by decide)
        clear hne hik hi1 hi2 hi3 hk1
        have hch : ∀ h, ((⟨#[102, 97, 108, 115, 101]⟩ : ByteArray)[1]'h).toNat = 97 := fun _ => rfl
        go_wp2_with fail
        with_reducible refine (quoteChar q 97 _ (HG.out.below ?b) (by decide) (by decide)).mono ?_
        case b => exact (by repeat (first | exact Below.refl _ _ | exact HBW.out | apply pw_below_drewN))
        rintro e w2 ⟨rfl, hb⟩
        have HBW := Aside0.mk (below_step (w := w) (by repeat (first | exact Below.refl _ _ | exact HBW.out | apply pw_below_drewN)) hb)
        clear hb
        by_cases hc : cur + (1 : Int) = (L.length : Int) - 1
        · have HF' := Aside0.mk (HF.out hc)
          have hcall := HC.out w2 HBW.out
          rw [decide_eq_true hc] at hcall
          have HC2 := Aside0.mk hcall
          clear hcall hc HC HF HF2
          go_wp2_with fail
          with_reducible refine HC2.out.mono ?_
          rintro e w3 ⟨rfl, ⟨m3, rfl⟩⟩
          go_wp2_with fail
          with_reducible refine (scalarEnd (q := q) _ _ _ _ _ (HG.out.below ?b) ?sz).mono ?_
          case b => exact (by repeat (first | exact Below.refl _ _ | exact HBW.out | apply pw_below_drewN))
          case sz => simp only [ByteArray.size_append]; have e1 : (⟨#[102, 97, 108, 115, 101]⟩ : ByteArray).size = 5 := rfl; have e2 : (⟨#[105, 110, 32, 108, 105, 116, 101, 114, 97, 108, 32]⟩ : ByteArray).size = 11 := rfl; have e3 : (⟨#[32, 40, 101, 120, 112, 101, 99, 116, 105, 110, 103, 32]⟩ : ByteArray).size = 12 := rfl; have e4 : (⟨#[41]⟩ : ByteArray).size = 1 := rfl; omega
          rintro e w3 ⟨v, rfl, hv, hb⟩
          have HV := Aside0.mk hv
          have HB3 := Aside0.mk (below_step (w := w) (by repeat (first | exact Below.refl _ _ | exact HBW.out | apply pw_below_drewN)) hb)
          clear hv hb
          go_wp2
          go_ret
          rw [HF'.out]
          exact ⟨_, rfl, HV.out, HB3.out⟩
        · have HF' := Aside0.mk (HF2.out hc)
          have hcall := HC.out w2 HBW.out
          rw [decide_eq_false hc] at hcall
          have HC2 := Aside0.mk hcall
          clear hcall hc HC HF HF2
          go_wp2_with fail
          with_reducible refine HC2.out.mono ?_
          rintro e w3 ⟨rfl, ⟨m3, rfl⟩⟩
          go_wp2_with fail
          with_reducible refine (invalidCharacter q ad c L _ _ _ (HG.out.below ?b) (HB.out.below ?b) (by omega) hia ?sz).mono ?_
          case b => exact (by repeat (first | exact Below.refl _ _ | exact HBW.out | apply pw_below_drewN))
          case sz => simp only [ByteArray.size_append]; have e1 : (⟨#[102, 97, 108, 115, 101]⟩ : ByteArray).size = 5 := rfl; have e2 : (⟨#[105, 110, 32, 108, 105, 116, 101, 114, 97, 108, 32]⟩ : ByteArray).size = 11 := rfl; have e3 : (⟨#[32, 40, 101, 120, 112, 101, 99, 116, 105, 110, 103, 32]⟩ : ByteArray).size = 12 := rfl; have e4 : (⟨#[41]⟩ : ByteArray).size = 1 := rfl; omega
          rintro e w3 ⟨g, rfl, hg, hp, hb⟩
          have HP := Aside0.mk hp
          have HB3 := Aside0.mk (below_step (w := w) (by repeat (first | exact Below.refl _ _ | exact HBW.out | apply pw_below_drewN)) hb)
          clear hp hb hg
          go_wp2
          go_ret
          rw [HF'.out]
          exact ⟨_, rfl, ⟨g, rfl, HP.out⟩, HB3.out⟩
      · obtain rfl : k = 2 := by omega
        have hne : rd L (cur + 2) ≠ 108 := HM.out.ne
        have HF := Aside0.mk (show cur + 2 = (L.length : Int) - 1 → S = ⟨badWords q 32 (litWhat q lFalse 2), cur + 2, true, 0⟩ from fun hc => by rw [HS.out]; unfold scalarF; exact if_pos hc)
        have HF2 := Aside0.mk (show ¬ (cur + 2 = (L.length : Int) - 1) → S = ⟨badWords q (rd L (cur + 2)) (litWhat q lFalse 2), cur + 2 + 1, false, 0⟩ from fun hc => by rw [HS.out]; unfold scalarF; exact if_neg hc)
        have f1 : (rd L (cur + 2) == 108) = false := beq_eq_false_iff_ne.mpr hne
        have f2 : (rd L (cur + 2) != 108) = true := bne_iff_ne.mpr hne
        have hs := quoted_size q 108 w HG.out (by decide) (by decide)
        clear hne hik hi1 hi2 hi3 hk1
        have hch : ∀ h, ((⟨#[102, 97, 108, 115, 101]⟩ : ByteArray)[2]'h).toNat = 108 := fun _ => rfl
        go_wp2_with fail
        with_reducible refine (quoteChar q 108 _ (HG.out.below ?b) (by decide) (by decide)).mono ?_
        case b => exact (by repeat (first | exact Below.refl _ _ | exact HBW.out | apply pw_below_drewN))
        rintro e w2 ⟨rfl, hb⟩
        have HBW := Aside0.mk (below_step (w := w) (by repeat (first | exact Below.refl _ _ | exact HBW.out | apply pw_below_drewN)) hb)
        clear hb
        by_cases hc : cur + (2 : Int) = (L.length : Int) - 1
        · have HF' := Aside0.mk (HF.out hc)
          have hcall := HC.out w2 HBW.out
          rw [decide_eq_true hc] at hcall
          have HC2 := Aside0.mk hcall
          clear hcall hc HC HF HF2
          go_wp2_with fail
          with_reducible refine HC2.out.mono ?_
          rintro e w3 ⟨rfl, ⟨m3, rfl⟩⟩
          go_wp2_with fail
          with_reducible refine (scalarEnd (q := q) _ _ _ _ _ (HG.out.below ?b) ?sz).mono ?_
          case b => exact (by repeat (first | exact Below.refl _ _ | exact HBW.out | apply pw_below_drewN))
          case sz => simp only [ByteArray.size_append]; have e1 : (⟨#[102, 97, 108, 115, 101]⟩ : ByteArray).size = 5 := rfl; have e2 : (⟨#[105, 110, 32, 108, 105, 116, 101, 114, 97, 108, 32]⟩ : ByteArray).size = 11 := rfl; have e3 : (⟨#[32, 40, 101, 120, 112, 101, 99, 116, 105, 110, 103, 32]⟩ : ByteArray).size = 12 := rfl; have e4 : (⟨#[41]⟩ : ByteArray).size = 1 := rfl; omega
          rintro e w3 ⟨v, rfl, hv, hb⟩
          have HV := Aside0.mk hv
          have HB3 := Aside0.mk (below_step (w := w) (by repeat (first | exact Below.refl _ _ | exact HBW.out | apply pw_below_drewN)) hb)
          clear hv hb
          go_wp2
          go_ret
          rw [HF'.out]
          exact ⟨_, rfl, HV.out, HB3.out⟩
        · have HF' := Aside0.mk (HF2.out hc)
          have hcall := HC.out w2 HBW.out
          rw [decide_eq_false hc] at hcall
          have HC2 := Aside0.mk hcall
          clear hcall hc HC HF HF2
          go_wp2_with fail
          with_reducible refine HC2.out.mono ?_
          rintro e w3 ⟨rfl, ⟨m3, rfl⟩⟩
          go_wp2_with fail
          with_reducible refine (invalidCharacter q ad c L _ _ _ (HG.out.below ?b) (HB.out.below ?b) (by omega) hia ?sz).mono ?_
          case b => exact (by repeat (first | exact Below.refl _ _ | exact HBW.out | apply pw_below_drewN))
          case sz => simp only [ByteArray.size_append]; have e1 : (⟨#[102, 97, 108, 115, 101]⟩ : ByteArray).size = 5 := rfl; have e2 : (⟨#[105, 110, 32, 108, 105, 116, 101, 114, 97, 108, 32]⟩ : ByteArray).size = 11 := rfl; have e3 : (⟨#[32, 40, 101, 120, 112, 101, 99, 116, 105, 110, 103, 32]⟩ : ByteArray).size = 12 := rfl; have e4 : (⟨#[41]⟩ : ByteArray).size = 1 := rfl; omega
          rintro e w3 ⟨g, rfl, hg, hp, hb⟩
          have HP := Aside0.mk hp
          have HB3 := Aside0.mk (below_step (w := w) (by repeat (first | exact Below.refl _ _ | exact HBW.out | apply pw_below_drewN)) hb)
          clear hp hb hg
          go_wp2
          go_ret
          rw [HF'.out]
          exact ⟨_, rfl, ⟨g, rfl, HP.out⟩, HB3.out⟩
      · obtain rfl : k = 3 := by omega
        have hne : rd L (cur + 3) ≠ 115 := HM.out.ne
        have HF := Aside0.mk (show cur + 3 = (L.length : Int) - 1 → S = ⟨badWords q 32 (litWhat q lFalse 3), cur + 3, true, 0⟩ from fun hc => by rw [HS.out]; unfold scalarF; exact if_pos hc)
        have HF2 := Aside0.mk (show ¬ (cur + 3 = (L.length : Int) - 1) → S = ⟨badWords q (rd L (cur + 3)) (litWhat q lFalse 3), cur + 3 + 1, false, 0⟩ from fun hc => by rw [HS.out]; unfold scalarF; exact if_neg hc)
        have f1 : (rd L (cur + 3) == 115) = false := beq_eq_false_iff_ne.mpr hne
        have f2 : (rd L (cur + 3) != 115) = true := bne_iff_ne.mpr hne
        have hs := quoted_size q 115 w HG.out (by decide) (by decide)
        clear hne hik hi1 hi2 hi3 hk1
        have hch : ∀ h, ((⟨#[102, 97, 108, 115, 101]⟩ : ByteArray)[3]'h).toNat = 115 := fun _ => rfl
        go_wp2_with fail
        with_reducible refine (quoteChar q 115 _ (HG.out.below ?b) (by decide) (by decide)).mono ?_
        case b => exact (by repeat (first | exact Below.refl _ _ | exact HBW.out | apply pw_below_drewN))
        rintro e w2 ⟨rfl, hb⟩
        have HBW := Aside0.mk (below_step (w := w) (by repeat (first | exact Below.refl _ _ | exact HBW.out | apply pw_below_drewN)) hb)
        clear hb
        by_cases hc : cur + (3 : Int) = (L.length : Int) - 1
        · have HF' := Aside0.mk (HF.out hc)
          have hcall := HC.out w2 HBW.out
          rw [decide_eq_true hc] at hcall
          have HC2 := Aside0.mk hcall
          clear hcall hc HC HF HF2
          go_wp2_with fail
          with_reducible refine HC2.out.mono ?_
          rintro e w3 ⟨rfl, ⟨m3, rfl⟩⟩
          go_wp2_with fail
          with_reducible refine (scalarEnd (q := q) _ _ _ _ _ (HG.out.below ?b) ?sz).mono ?_
          case b => exact (by repeat (first | exact Below.refl _ _ | exact HBW.out | apply pw_below_drewN))
          case sz => simp only [ByteArray.size_append]; have e1 : (⟨#[102, 97, 108, 115, 101]⟩ : ByteArray).size = 5 := rfl; have e2 : (⟨#[105, 110, 32, 108, 105, 116, 101, 114, 97, 108, 32]⟩ : ByteArray).size = 11 := rfl; have e3 : (⟨#[32, 40, 101, 120, 112, 101, 99, 116, 105, 110, 103, 32]⟩ : ByteArray).size = 12 := rfl; have e4 : (⟨#[41]⟩ : ByteArray).size = 1 := rfl; omega
          rintro e w3 ⟨v, rfl, hv, hb⟩
          have HV := Aside0.mk hv
          have HB3 := Aside0.mk (below_step (w := w) (by repeat (first | exact Below.refl _ _ | exact HBW.out | apply pw_below_drewN)) hb)
          clear hv hb
          go_wp2
          go_ret
          rw [HF'.out]
          exact ⟨_, rfl, HV.out, HB3.out⟩
        · have HF' := Aside0.mk (HF2.out hc)
          have hcall := HC.out w2 HBW.out
          rw [decide_eq_false hc] at hcall
          have HC2 := Aside0.mk hcall
          clear hcall hc HC HF HF2
          go_wp2_with fail
          with_reducible refine HC2.out.mono ?_
          rintro e w3 ⟨rfl, ⟨m3, rfl⟩⟩
          go_wp2_with fail
          with_reducible refine (invalidCharacter q ad c L _ _ _ (HG.out.below ?b) (HB.out.below ?b) (by omega) hia ?sz).mono ?_
          case b => exact (by repeat (first | exact Below.refl _ _ | exact HBW.out | apply pw_below_drewN))
          case sz => simp only [ByteArray.size_append]; have e1 : (⟨#[102, 97, 108, 115, 101]⟩ : ByteArray).size = 5 := rfl; have e2 : (⟨#[105, 110, 32, 108, 105, 116, 101, 114, 97, 108, 32]⟩ : ByteArray).size = 11 := rfl; have e3 : (⟨#[32, 40, 101, 120, 112, 101, 99, 116, 105, 110, 103, 32]⟩ : ByteArray).size = 12 := rfl; have e4 : (⟨#[41]⟩ : ByteArray).size = 1 := rfl; omega
          rintro e w3 ⟨g, rfl, hg, hp, hb⟩
          have HP := Aside0.mk hp
          have HB3 := Aside0.mk (below_step (w := w) (by repeat (first | exact Below.refl _ _ | exact HBW.out | apply pw_below_drewN)) hb)
          clear hp hb hg
          go_wp2
          go_ret
          rw [HF'.out]
          exact ⟨_, rfl, ⟨g, rfl, HP.out⟩, HB3.out⟩
      · obtain rfl : k = 4 := by omega
        have hne : rd L (cur + 4) ≠ 101 := HM.out.ne
        have HF := Aside0.mk (show cur + 4 = (L.length : Int) - 1 → S = ⟨badWords q 32 (litWhat q lFalse 4), cur + 4, true, 0⟩ from fun hc => by rw [HS.out]; unfold scalarF; exact if_pos hc)
        have HF2 := Aside0.mk (show ¬ (cur + 4 = (L.length : Int) - 1) → S = ⟨badWords q (rd L (cur + 4)) (litWhat q lFalse 4), cur + 4 + 1, false, 0⟩ from fun hc => by rw [HS.out]; unfold scalarF; exact if_neg hc)
        have f1 : (rd L (cur + 4) == 101) = false := beq_eq_false_iff_ne.mpr hne
        have f2 : (rd L (cur + 4) != 101) = true := bne_iff_ne.mpr hne
        have hs := quoted_size q 101 w HG.out (by decide) (by decide)
        clear hne hik hi1 hi2 hi3 hk1
        have hch : ∀ h, ((⟨#[102, 97, 108, 115, 101]⟩ : ByteArray)[4]'h).toNat = 101 := fun _ => rfl
        go_wp2_with fail
        with_reducible refine (quoteChar q 101 _ (HG.out.below ?b) (by decide) (by decide)).mono ?_
        case b => exact (by repeat (first | exact Below.refl _ _ | exact HBW.out | apply pw_below_drewN))
        rintro e w2 ⟨rfl, hb⟩
        have HBW := Aside0.mk (below_step (w := w) (by repeat (first | exact Below.refl _ _ | exact HBW.out | apply pw_below_drewN)) hb)
        clear hb
        by_cases hc : cur + (4 : Int) = (L.length : Int) - 1
        · have HF' := Aside0.mk (HF.out hc)
          have hcall := HC.out w2 HBW.out
          rw [decide_eq_true hc] at hcall
          have HC2 := Aside0.mk hcall
          clear hcall hc HC HF HF2
          go_wp2_with fail
          with_reducible refine HC2.out.mono ?_
          rintro e w3 ⟨rfl, ⟨m3, rfl⟩⟩
          go_wp2_with fail
          with_reducible refine (scalarEnd (q := q) _ _ _ _ _ (HG.out.below ?b) ?sz).mono ?_
          case b => exact (by repeat (first | exact Below.refl _ _ | exact HBW.out | apply pw_below_drewN))
          case sz => simp only [ByteArray.size_append]; have e1 : (⟨#[102, 97, 108, 115, 101]⟩ : ByteArray).size = 5 := rfl; have e2 : (⟨#[105, 110, 32, 108, 105, 116, 101, 114, 97, 108, 32]⟩ : ByteArray).size = 11 := rfl; have e3 : (⟨#[32, 40, 101, 120, 112, 101, 99, 116, 105, 110, 103, 32]⟩ : ByteArray).size = 12 := rfl; have e4 : (⟨#[41]⟩ : ByteArray).size = 1 := rfl; omega
          rintro e w3 ⟨v, rfl, hv, hb⟩
          have HV := Aside0.mk hv
          have HB3 := Aside0.mk (below_step (w := w) (by repeat (first | exact Below.refl _ _ | exact HBW.out | apply pw_below_drewN)) hb)
          clear hv hb
          go_wp2
          go_ret
          rw [HF'.out]
          exact ⟨_, rfl, HV.out, HB3.out⟩
        · have HF' := Aside0.mk (HF2.out hc)
          have hcall := HC.out w2 HBW.out
          rw [decide_eq_false hc] at hcall
          have HC2 := Aside0.mk hcall
          clear hcall hc HC HF HF2
          go_wp2_with fail
          with_reducible refine HC2.out.mono ?_
          rintro e w3 ⟨rfl, ⟨m3, rfl⟩⟩
          go_wp2_with fail
          with_reducible refine (invalidCharacter q ad c L _ _ _ (HG.out.below ?b) (HB.out.below ?b) (by omega) hia ?sz).mono ?_
          case b => exact (by repeat (first | exact Below.refl _ _ | exact HBW.out | apply pw_below_drewN))
          case sz => simp only [ByteArray.size_append]; have e1 : (⟨#[102, 97, 108, 115, 101]⟩ : ByteArray).size = 5 := rfl; have e2 : (⟨#[105, 110, 32, 108, 105, 116, 101, 114, 97, 108, 32]⟩ : ByteArray).size = 11 := rfl; have e3 : (⟨#[32, 40, 101, 120, 112, 101, 99, 116, 105, 110, 103, 32]⟩ : ByteArray).size = 12 := rfl; have e4 : (⟨#[41]⟩ : ByteArray).size = 1 := rfl; omega
          rintro e w3 ⟨g, rfl, hg, hp, hb⟩
          have HP := Aside0.mk hp
          have HB3 := Aside0.mk (below_step (w := w) (by repeat (first | exact Below.refl _ _ | exact HBW.out | apply pw_below_drewN)) hb)
          clear hp hb hg
          go_wp2
          go_ret
          rw [HF'.out]
          exact ⟨_, rfl, ⟨g, rfl, HP.out⟩, HB3.out⟩
    · obtain _ | g0 := gk
      · exfalso; omega
      have hcs : i = 1 ∨ i = 2 ∨ i = 3 ∨ i = 4 := by omega
      rcases hcs with rfl | rfl | rfl | rfl
      · have heq' : rd L (cur + 1) = 97 := HM.out.all 1 (by decide) (by omega)
        rw [heq'] at hx
        clear heq' hby
        have hch : ∀ h, ((⟨#[102, 97, 108, 115, 101]⟩ : ByteArray)[1]'h).toNat = 97 := fun _ => rfl
        go_wp2
        go_roundg g0
        case measure => omega
        case rel => exact ⟨2, rfl, ⟨by omega, by omega, by omega⟩, by repeat (first | exact Drawn0.refl _ | apply Drawn0.step)⟩
      · have heq' : rd L (cur + 2) = 108 := HM.out.all 2 (by decide) (by omega)
        rw [heq'] at hx
        clear heq' hby
        have hch : ∀ h, ((⟨#[102, 97, 108, 115, 101]⟩ : ByteArray)[2]'h).toNat = 108 := fun _ => rfl
        go_wp2
        go_roundg g0
        case measure => omega
        case rel => exact ⟨3, rfl, ⟨by omega, by omega, by omega⟩, by repeat (first | exact Drawn0.refl _ | apply Drawn0.step)⟩
      · have heq' : rd L (cur + 3) = 115 := HM.out.all 3 (by decide) (by omega)
        rw [heq'] at hx
        clear heq' hby
        have hch : ∀ h, ((⟨#[102, 97, 108, 115, 101]⟩ : ByteArray)[3]'h).toNat = 115 := fun _ => rfl
        go_wp2
        go_roundg g0
        case measure => omega
        case rel => exact ⟨4, rfl, ⟨by omega, by omega, by omega⟩, by repeat (first | exact Drawn0.refl _ | apply Drawn0.step)⟩
      · exfalso; omega
set_option maxRecDepth 100000 in
set_option maxHeartbeats 8000000 in
theorem litNull (q : ByteArray → ByteArray) (ad : Addr) (c : Nat) (L : List Int) (cur : Int) (k : Nat) (w : World) (hG : G q w) (hB : Buf w ad c L) (h0 : 0 ≤ cur) (hm : Mis L cur lNull k) :
    Calls Tryd.prog 120 #[.slice (some ad) L.length c, .int .i64 cur, .string ⟨#[110, 117, 108, 108]⟩] w (Gives w (scalarF q L (cur + k) (litWhat q lNull k))) := by
  have hsm := hB.small
  have hps := hB.pos
  have hk1 := hm.one
  have hk2 : k < 4 := hm.lt
  have hk3 := hm.in_
  have HT := Aside0.mk hB.txt
  have HB := Aside0.mk hB
  have HG := Aside0.mk hG
  have HM := Aside0.mk hm
  clear hB hG hm
  obtain ⟨S, hS⟩ : ∃ S, S = scalarF q L (cur + k) (litWhat q lNull k) := ⟨_, rfl⟩
  rw [← hS]
  have HS := Aside0.mk hS
  clear hS
  go_enter Tryd.func120, Tryd.ntmps120
  go_wp2
  go_loopg [7] (4) (fun kq v1 w' => ∃ (i : Int), v1 = .int .i64 i ∧ Aside0 (1 ≤ i ∧ i ≤ k ∧ i + kq = 5) ∧ Drawn0 w w')
  case atStart => exact ⟨1, rfl, ⟨by omega, by omega, by omega⟩, by repeat (first | exact Drawn0.refl _ | apply Drawn0.step)⟩
  case round =>
    obtain ⟨i, rfl, HA, ⟨m, rfl⟩⟩ := hrel
    obtain ⟨hi1, hi2, hi3⟩ := HA.out
    clear HA
    have hia : cur + i < L.length := by omega
    have hx := HB.out.at_ (cur + i) (by omega) hia
    have hby := HT.out.bytes (cur + i) (by omega) hia
    by_cases hik : i = k
    · have hcall := fun W (hb : Below w.heap.size w W) => isEnd ad c L (cur + i) W (HB.out.below hb) (by omega) hia
      have HC := Aside0.mk hcall
      clear hcall
      have hcs : i = 1 ∨ i = 2 ∨ i = 3 := by omega
      rcases hcs with rfl | rfl | rfl
      · obtain rfl : k = 1 := by omega
        have hne : rd L (cur + 1) ≠ 117 := HM.out.ne
        have HF := Aside0.mk (show cur + 1 = (L.length : Int) - 1 → S = ⟨badWords q 32 (litWhat q lNull 1), cur + 1, true, 0⟩ from fun hc => by rw [HS.out]; unfold scalarF; exact if_pos hc)
        have HF2 := Aside0.mk (show ¬ (cur + 1 = (L.length : Int) - 1) → S = ⟨badWords q (rd L (cur + 1)) (litWhat q lNull 1), cur + 1 + 1, false, 0⟩ from fun hc => by rw [HS.out]; unfold scalarF; exact if_neg hc)
        have f1 : (rd L (cur + 1) == 117) = false := beq_eq_false_iff_ne.mpr hne
        have f2 : (rd L (cur + 1) != 117) = true := bne_iff_ne.mpr hne
        have hs := quoted_size q 117 w HG.out (by decide) (by decide)
        clear hne hik hi1 hi2 hi3 hk1
        have hch : ∀ h, ((⟨#[110, 117, 108, 108]⟩ : ByteArray)[1]'h).toNat = 117 := fun _ => rfl
        go_wp2_with fail
        with_reducible refine (quoteChar q 117 _ (HG.out.below ?b) (by decide) (by decide)).mono ?_
        case b => exact (by repeat (first | exact Below.refl _ _ | exact HBW.out | apply pw_below_drewN))
        rintro e w2 ⟨rfl, hb⟩
        have HBW := Aside0.mk (below_step (w := w) (by repeat (first | exact Below.refl _ _ | exact HBW.out | apply pw_below_drewN)) hb)
        clear hb
        by_cases hc : cur + (1 : Int) = (L.length : Int) - 1
        · have HF' := Aside0.mk (HF.out hc)
          have hcall := HC.out w2 HBW.out
          rw [decide_eq_true hc] at hcall
          have HC2 := Aside0.mk hcall
          clear hcall hc HC HF HF2
          go_wp2_with fail
          with_reducible refine HC2.out.mono ?_
          rintro e w3 ⟨rfl, ⟨m3, rfl⟩⟩
          go_wp2_with fail
          with_reducible refine (scalarEnd (q := q) _ _ _ _ _ (HG.out.below ?b) ?sz).mono ?_
          case b => exact (by repeat (first | exact Below.refl _ _ | exact HBW.out | apply pw_below_drewN))
          case sz => simp only [ByteArray.size_append]; have e1 : (⟨#[110, 117, 108, 108]⟩ : ByteArray).size = 4 := rfl; have e2 : (⟨#[105, 110, 32, 108, 105, 116, 101, 114, 97, 108, 32]⟩ : ByteArray).size = 11 := rfl; have e3 : (⟨#[32, 40, 101, 120, 112, 101, 99, 116, 105, 110, 103, 32]⟩ : ByteArray).size = 12 := rfl; have e4 : (⟨#[41]⟩ : ByteArray).size = 1 := rfl; omega
          rintro e w3 ⟨v, rfl, hv, hb⟩
          have HV := Aside0.mk hv
          have HB3 := Aside0.mk (below_step (w := w) (by repeat (first | exact Below.refl _ _ | exact HBW.out | apply pw_below_drewN)) hb)
          clear hv hb
          go_wp2
          go_ret
          rw [HF'.out]
          exact ⟨_, rfl, HV.out, HB3.out⟩
        · have HF' := Aside0.mk (HF2.out hc)
          have hcall := HC.out w2 HBW.out
          rw [decide_eq_false hc] at hcall
          have HC2 := Aside0.mk hcall
          clear hcall hc HC HF HF2
          go_wp2_with fail
          with_reducible refine HC2.out.mono ?_
          rintro e w3 ⟨rfl, ⟨m3, rfl⟩⟩
          go_wp2_with fail
          with_reducible refine (invalidCharacter q ad c L _ _ _ (HG.out.below ?b) (HB.out.below ?b) (by omega) hia ?sz).mono ?_
          case b => exact (by repeat (first | exact Below.refl _ _ | exact HBW.out | apply pw_below_drewN))
          case sz => simp only [ByteArray.size_append]; have e1 : (⟨#[110, 117, 108, 108]⟩ : ByteArray).size = 4 := rfl; have e2 : (⟨#[105, 110, 32, 108, 105, 116, 101, 114, 97, 108, 32]⟩ : ByteArray).size = 11 := rfl; have e3 : (⟨#[32, 40, 101, 120, 112, 101, 99, 116, 105, 110, 103, 32]⟩ : ByteArray).size = 12 := rfl; have e4 : (⟨#[41]⟩ : ByteArray).size = 1 := rfl; omega
          rintro e w3 ⟨g, rfl, hg, hp, hb⟩
          have HP := Aside0.mk hp
          have HB3 := Aside0.mk (below_step (w := w) (by repeat (first | exact Below.refl _ _ | exact HBW.out | apply pw_below_drewN)) hb)
          clear hp hb hg
          go_wp2
          go_ret
          rw [HF'.out]
          exact ⟨_, rfl, ⟨g, rfl, HP.out⟩, HB3.out⟩
      · obtain rfl : k = 2 := by omega
        have hne : rd L (cur + 2) ≠ 108 := HM.out.ne
        have HF := Aside0.mk (show cur + 2 = (L.length : Int) - 1 → S = ⟨badWords q 32 (litWhat q lNull 2), cur + 2, true, 0⟩ from fun hc => by rw [HS.out]; unfold scalarF; exact if_pos hc)
        have HF2 := Aside0.mk (show ¬ (cur + 2 = (L.length : Int) - 1) → S = ⟨badWords q (rd L (cur + 2)) (litWhat q lNull 2), cur + 2 + 1, false, 0⟩ from fun hc => by rw [HS.out]; unfold scalarF; exact if_neg hc)
        have f1 : (rd L (cur + 2) == 108) = false := beq_eq_false_iff_ne.mpr hne
        have f2 : (rd L (cur + 2) != 108) = true := bne_iff_ne.mpr hne
        have hs := quoted_size q 108 w HG.out (by decide) (by decide)
        clear hne hik hi1 hi2 hi3 hk1
        have hch : ∀ h, ((⟨#[110, 117, 108, 108]⟩ : ByteArray)[2]'h).toNat = 108 := fun _ => rfl
        go_wp2_with fail
        with_reducible refine (quoteChar q 108 _ (HG.out.below ?b) (by decide) (by decide)).mono ?_
        case b => exact (by repeat (first | exact Below.refl _ _ | exact HBW.out | apply pw_below_drewN))
        rintro e w2 ⟨rfl, hb⟩
        have HBW := Aside0.mk (below_step (w := w) (by repeat (first | exact Below.refl _ _ | exact HBW.out | apply pw_below_drewN)) hb)
        clear hb
        by_cases hc : cur + (2 : Int) = (L.length : Int) - 1
        · have HF' := Aside0.mk (HF.out hc)
          have hcall := HC.out w2 HBW.out
          rw [decide_eq_true hc] at hcall
          have HC2 := Aside0.mk hcall
          clear hcall hc HC HF HF2
          go_wp2_with fail
          with_reducible refine HC2.out.mono ?_
          rintro e w3 ⟨rfl, ⟨m3, rfl⟩⟩
          go_wp2_with fail
          with_reducible refine (scalarEnd (q := q) _ _ _ _ _ (HG.out.below ?b) ?sz).mono ?_
          case b => exact (by repeat (first | exact Below.refl _ _ | exact HBW.out | apply pw_below_drewN))
          case sz => simp only [ByteArray.size_append]; have e1 : (⟨#[110, 117, 108, 108]⟩ : ByteArray).size = 4 := rfl; have e2 : (⟨#[105, 110, 32, 108, 105, 116, 101, 114, 97, 108, 32]⟩ : ByteArray).size = 11 := rfl; have e3 : (⟨#[32, 40, 101, 120, 112, 101, 99, 116, 105, 110, 103, 32]⟩ : ByteArray).size = 12 := rfl; have e4 : (⟨#[41]⟩ : ByteArray).size = 1 := rfl; omega
          rintro e w3 ⟨v, rfl, hv, hb⟩
          have HV := Aside0.mk hv
          have HB3 := Aside0.mk (below_step (w := w) (by repeat (first | exact Below.refl _ _ | exact HBW.out | apply pw_below_drewN)) hb)
          clear hv hb
          go_wp2
          go_ret
          rw [HF'.out]
          exact ⟨_, rfl, HV.out, HB3.out⟩
        · have HF' := Aside0.mk (HF2.out hc)
          have hcall := HC.out w2 HBW.out
          rw [decide_eq_false hc] at hcall
          have HC2 := Aside0.mk hcall
          clear hcall hc HC HF HF2
          go_wp2_with fail
          with_reducible refine HC2.out.mono ?_
          rintro e w3 ⟨rfl, ⟨m3, rfl⟩⟩
          go_wp2_with fail
          with_reducible refine (invalidCharacter q ad c L _ _ _ (HG.out.below ?b) (HB.out.below ?b) (by omega) hia ?sz).mono ?_
          case b => exact (by repeat (first | exact Below.refl _ _ | exact HBW.out | apply pw_below_drewN))
          case sz => simp only [ByteArray.size_append]; have e1 : (⟨#[110, 117, 108, 108]⟩ : ByteArray).size = 4 := rfl; have e2 : (⟨#[105, 110, 32, 108, 105, 116, 101, 114, 97, 108, 32]⟩ : ByteArray).size = 11 := rfl; have e3 : (⟨#[32, 40, 101, 120, 112, 101, 99, 116, 105, 110, 103, 32]⟩ : ByteArray).size = 12 := rfl; have e4 : (⟨#[41]⟩ : ByteArray).size = 1 := rfl; omega
          rintro e w3 ⟨g, rfl, hg, hp, hb⟩
          have HP := Aside0.mk hp
          have HB3 := Aside0.mk (below_step (w := w) (by repeat (first | exact Below.refl _ _ | exact HBW.out | apply pw_below_drewN)) hb)
          clear hp hb hg
          go_wp2
          go_ret
          rw [HF'.out]
          exact ⟨_, rfl, ⟨g, rfl, HP.out⟩, HB3.out⟩
      · obtain rfl : k = 3 := by omega
        have hne : rd L (cur + 3) ≠ 108 := HM.out.ne
        have HF := Aside0.mk (show cur + 3 = (L.length : Int) - 1 → S = ⟨badWords q 32 (litWhat q lNull 3), cur + 3, true, 0⟩ from fun hc => by rw [HS.out]; unfold scalarF; exact if_pos hc)
        have HF2 := Aside0.mk (show ¬ (cur + 3 = (L.length : Int) - 1) → S = ⟨badWords q (rd L (cur + 3)) (litWhat q lNull 3), cur + 3 + 1, false, 0⟩ from fun hc => by rw [HS.out]; unfold scalarF; exact if_neg hc)
        have f1 : (rd L (cur + 3) == 108) = false := beq_eq_false_iff_ne.mpr hne
        have f2 : (rd L (cur + 3) != 108) = true := bne_iff_ne.mpr hne
        have hs := quoted_size q 108 w HG.out (by decide) (by decide)
        clear hne hik hi1 hi2 hi3 hk1
        have hch : ∀ h, ((⟨#[110, 117, 108, 108]⟩ : ByteArray)[3]'h).toNat = 108 := fun _ => rfl
        go_wp2_with fail
        with_reducible refine (quoteChar q 108 _ (HG.out.below ?b) (by decide) (by decide)).mono ?_
        case b => exact (by repeat (first | exact Below.refl _ _ | exact HBW.out | apply pw_below_drewN))
        rintro e w2 ⟨rfl, hb⟩
        have HBW := Aside0.mk (below_step (w := w) (by repeat (first | exact Below.refl _ _ | exact HBW.out | apply pw_below_drewN)) hb)
        clear hb
        by_cases hc : cur + (3 : Int) = (L.length : Int) - 1
        · have HF' := Aside0.mk (HF.out hc)
          have hcall := HC.out w2 HBW.out
          rw [decide_eq_true hc] at hcall
          have HC2 := Aside0.mk hcall
          clear hcall hc HC HF HF2
          go_wp2_with fail
          with_reducible refine HC2.out.mono ?_
          rintro e w3 ⟨rfl, ⟨m3, rfl⟩⟩
          go_wp2_with fail
          with_reducible refine (scalarEnd (q := q) _ _ _ _ _ (HG.out.below ?b) ?sz).mono ?_
          case b => exact (by repeat (first | exact Below.refl _ _ | exact HBW.out | apply pw_below_drewN))
          case sz => simp only [ByteArray.size_append]; have e1 : (⟨#[110, 117, 108, 108]⟩ : ByteArray).size = 4 := rfl; have e2 : (⟨#[105, 110, 32, 108, 105, 116, 101, 114, 97, 108, 32]⟩ : ByteArray).size = 11 := rfl; have e3 : (⟨#[32, 40, 101, 120, 112, 101, 99, 116, 105, 110, 103, 32]⟩ : ByteArray).size = 12 := rfl; have e4 : (⟨#[41]⟩ : ByteArray).size = 1 := rfl; omega
          rintro e w3 ⟨v, rfl, hv, hb⟩
          have HV := Aside0.mk hv
          have HB3 := Aside0.mk (below_step (w := w) (by repeat (first | exact Below.refl _ _ | exact HBW.out | apply pw_below_drewN)) hb)
          clear hv hb
          go_wp2
          go_ret
          rw [HF'.out]
          exact ⟨_, rfl, HV.out, HB3.out⟩
        · have HF' := Aside0.mk (HF2.out hc)
          have hcall := HC.out w2 HBW.out
          rw [decide_eq_false hc] at hcall
          have HC2 := Aside0.mk hcall
          clear hcall hc HC HF HF2
          go_wp2_with fail
          with_reducible refine HC2.out.mono ?_
          rintro e w3 ⟨rfl, ⟨m3, rfl⟩⟩
          go_wp2_with fail
          with_reducible refine (invalidCharacter q ad c L _ _ _ (HG.out.below ?b) (HB.out.below ?b) (by omega) hia ?sz).mono ?_
          case b => exact (by repeat (first | exact Below.refl _ _ | exact HBW.out | apply pw_below_drewN))
          case sz => simp only [ByteArray.size_append]; have e1 : (⟨#[110, 117, 108, 108]⟩ : ByteArray).size = 4 := rfl; have e2 : (⟨#[105, 110, 32, 108, 105, 116, 101, 114, 97, 108, 32]⟩ : ByteArray).size = 11 := rfl; have e3 : (⟨#[32, 40, 101, 120, 112, 101, 99, 116, 105, 110, 103, 32]⟩ : ByteArray).size = 12 := rfl; have e4 : (⟨#[41]⟩ : ByteArray).size = 1 := rfl; omega
          rintro e w3 ⟨g, rfl, hg, hp, hb⟩
          have HP := Aside0.mk hp
          have HB3 := Aside0.mk (below_step (w := w) (by repeat (first | exact Below.refl _ _ | exact HBW.out | apply pw_below_drewN)) hb)
          clear hp hb hg
          go_wp2
          go_ret
          rw [HF'.out]
          exact ⟨_, rfl, ⟨g, rfl, HP.out⟩, HB3.out⟩
    · obtain _ | g0 := gk
      · exfalso; omega
      have hcs : i = 1 ∨ i = 2 ∨ i = 3 := by omega
      rcases hcs with rfl | rfl | rfl
      · have heq' : rd L (cur + 1) = 117 := HM.out.all 1 (by decide) (by omega)
        rw [heq'] at hx
        clear heq' hby
        have hch : ∀ h, ((⟨#[110, 117, 108, 108]⟩ : ByteArray)[1]'h).toNat = 117 := fun _ => rfl
        go_wp2
        go_roundg g0
        case measure => omega
        case rel => exact ⟨2, rfl, ⟨by omega, by omega, by omega⟩, by repeat (first | exact Drawn0.refl _ | apply Drawn0.step)⟩
      · have heq' : rd L (cur + 2) = 108 := HM.out.all 2 (by decide) (by omega)
        rw [heq'] at hx
        clear heq' hby
        have hch : ∀ h, ((⟨#[110, 117, 108, 108]⟩ : ByteArray)[2]'h).toNat = 108 := fun _ => rfl
        go_wp2
        go_roundg g0
        case measure => omega
        case rel => exact ⟨3, rfl, ⟨by omega, by omega, by omega⟩, by repeat (first | exact Drawn0.refl _ | apply Drawn0.step)⟩
      · exfalso; omega
end Go.Proofs.YtfkagnpdapkaaaaDoor.Err
/- What the scanner tells of words, of brackets that open, and of what begins no value. -/
namespace Go.Proofs.YtfkagnpdapkaaaaDoor.Err
open Go.RowKit Go.Proofs.YtfkagnpdapkaaaaDoorW.PrintWords Go.Proofs.YtfkagnpdapkaaaaDoorW.PrintLast Go.Proofs.YtfkagnpdapkaaaaDoorW.PrintMore
set_option linter.unusedVariables false
section
variable {q : ByteArray → ByteArray} {L : List Int} {x : Int} {st : List Br} {l : List Int} {k : Nat}
theorem word_next (hT : Txt L) (h0 : 0 ≤ x) (h1 : x < L.length) (hn : l.getD k 0 ≠ 0) (hc : rd L x = l.getD k 0) (hk : k + 1 < l.length) : out q L (.word l k) st x = out q L (.word l (k + 1)) st (x + 1) ∧ x + 1 < L.length := by
  have hin := hT.inside h0 h1 (by rw [hc]; exact hn)
  exact ⟨out_step h0 hin (by rw [step_word, if_pos hc, if_neg (by omega)]) rfl, by omega⟩
theorem word_last (hT : Txt L) (h0 : 0 ≤ x) (h1 : x < L.length) (hn : l.getD k 0 ≠ 0) (hc : rd L x = l.getD k 0) (hk : k + 1 = l.length) : out q L (.word l k) st x = contO q L st (x + 1) ∧ x + 1 < L.length := by
  have hin := hT.inside h0 h1 (by rw [hc]; exact hn)
  exact ⟨out_close h0 hin (by rw [step_word, if_pos hc, if_pos hk]) rfl, by omega⟩
theorem word_bad (hT : Txt L) (h0 : 0 ≤ x) (h1 : x < L.length) (h32 : l.getD k 0 ≠ 32) (hc : rd L x ≠ l.getD k 0) : out q L (.word l k) st x = .fault (scalarF q L x (litWhat q l k)) := by
  unfold scalarF
  by_cases h : x = (L.length : Int) - 1
  · rw [out_stop hT h rfl, if_pos h]
    unfold endF
    rw [step_word, if_neg (Ne.symm h32)]
  · rw [out_err (m := (badWords q (rd L x) (litWhat q l k), false)) h0 (by omega) (by rw [step_word, if_neg hc]) rfl, if_neg h]
    rfl
theorem val_step {ph : Ph} {st' : List Br} (hT : Txt L) (h0 : 0 ≤ x) (h1 : x < L.length) (hn : rd L x ≠ 0) (hs : step q (rd L x) .val st = .ok (ph, st')) (ha : isAll ph = false) : out q L .val st x = out q L ph st' (x + 1) ∧ x + 1 < L.length := by
  have hin := hT.inside h0 h1 hn
  exact ⟨out_step h0 hin hs ha, by omega⟩
theorem val_text (hT : Txt L) (h0 : 0 ≤ x) (h1 : x < L.length) (hc : rd L x = 34) : out q L .val st x = out q L .text st (x + 1) ∧ x + 1 < L.length := val_step hT h0 h1 (by omega) (by rw [hc]; rfl) rfl
theorem val_obj (hT : Txt L) (h0 : 0 ≤ x) (h1 : x < L.length) (hc : rd L x = 123) : out q L .val st x = out q L .name0 (.obj :: st) (x + 1) ∧ x + 1 < L.length := val_step hT h0 h1 (by omega) (by rw [hc]; rfl) rfl
theorem val_arr (hT : Txt L) (h0 : 0 ≤ x) (h1 : x < L.length) (hc : rd L x = 91) : out q L .val st x = out q L .item0 (.arr :: st) (x + 1) ∧ x + 1 < L.length := val_step hT h0 h1 (by omega) (by rw [hc]; rfl) rfl
theorem val_t (hT : Txt L) (h0 : 0 ≤ x) (h1 : x < L.length) (hc : rd L x = 116) : out q L .val st x = out q L (.word lTrue 1) st (x + 1) ∧ x + 1 < L.length := val_step hT h0 h1 (by omega) (by rw [hc]; rfl) rfl
theorem val_f (hT : Txt L) (h0 : 0 ≤ x) (h1 : x < L.length) (hc : rd L x = 102) : out q L .val st x = out q L (.word lFalse 1) st (x + 1) ∧ x + 1 < L.length := val_step hT h0 h1 (by omega) (by rw [hc]; rfl) rfl
theorem val_n (hT : Txt L) (h0 : 0 ≤ x) (h1 : x < L.length) (hc : rd L x = 110) : out q L .val st x = out q L (.word lNull 1) st (x + 1) ∧ x + 1 < L.length := val_step hT h0 h1 (by omega) (by rw [hc]; rfl) rfl
theorem val_bad (hT : Txt L) (h0 : 0 ≤ x) (h1 : x < L.length) (hb : ¬ isBlank (rd L x)) (c1 : rd L x ≠ 123) (c2 : rd L x ≠ 91) (c3 : rd L x ≠ 34) (c4 : rd L x ≠ 45) (c5 : ¬ isDig (rd L x)) (c6 : rd L x ≠ 116) (c7 : rd L x ≠ 102) (c8 : rd L x ≠ 110) : out q L .val st x = .fault (faultAt q L x 0) := by
  have c9 : rd L x ≠ 48 := fun h => c5 (by rw [h]; decide)
  refine air_bad 0 true hT rfl h0 h1 ?_ ⟨fun _ => rfl, fun _ => rfl⟩
  unfold between
  rw [if_neg hb]
  unfold begin_
  rw [if_neg c1, if_neg c2, if_neg c3, if_neg c4, if_neg c9, if_neg c5, if_neg c6, if_neg c7, if_neg c8]
  rfl
/-- Where no bracket shuts an object or an array at once, it goes on as behind a comma. -/
theorem name0_name (hT : Txt L) (h0 : 0 ≤ x) (h1 : x < L.length) (hb : ¬ isBlank (rd L x)) (hc : rd L x ≠ 125) : out q L .name0 st x = out q L .name st x := by
  by_cases h : x = (L.length : Int) - 1
  · rw [out_stop hT h rfl, out_stop hT h rfl]
    rfl
  · rw [out_at q L _ _ x h0 (by omega), out_at q L _ _ x h0 (by omega)]
    have e : step q (rd L x) .name0 st = step q (rd L x) .name st := by
      show between q (rd L x) .name0 st = between q (rd L x) .name st
      unfold between
      rw [if_neg hb, if_neg hb]
      exact if_neg hc
    rw [e]
    rfl
theorem item0_val (hT : Txt L) (h0 : 0 ≤ x) (h1 : x < L.length) (hb : ¬ isBlank (rd L x)) (hc : rd L x ≠ 93) : out q L .item0 st x = out q L .val st x := by
  by_cases h : x = (L.length : Int) - 1
  · rw [out_stop hT h rfl, out_stop hT h rfl]
    rfl
  · rw [out_at q L _ _ x h0 (by omega), out_at q L _ _ x h0 (by omega)]
    have e : step q (rd L x) .item0 st = step q (rd L x) .val st := by
      show between q (rd L x) .item0 st = between q (rd L x) .val st
      unfold between
      rw [if_neg hb, if_neg hb]
      exact if_neg hc
    rw [e]
    rfl
end
end Go.Proofs.YtfkagnpdapkaaaaDoor.Err
/- The kinds of open brackets as bits of a word: asked, put, taken away. -/
namespace Go.Proofs.YtfkagnpdapkaaaaDoor.Err
open Go.RowKit Go.Proofs.YtfkagnpdapkaaaaDoorW.PrintWords Go.Proofs.YtfkagnpdapkaaaaDoorW.PrintLast Go.Proofs.YtfkagnpdapkaaaaDoorW.PrintMore
open Go.Proofs.YtfkagnpdapkaaaaDoor.Tab
set_option linter.unusedVariables false
def isObj : Br → Bool
  | .arr => false
  | _ => true
def plain : Br → Bool
  | .key => false
  | _ => true
/-- The levels and their kinds, as bits of a word, of what is open. -/
structure Rep (lev obj : Int) (st : List Br) : Prop where
  len : lev = st.length
  low : 0 ≤ obj
  high : obj < 18446744073709551616
  few : st.length ≤ 64
  plain : ∀ b, b ∈ st → plain b = true
  bits : ∀ j (h : j < st.length), obj.toNat.testBit j = isObj (st[st.length - 1 - j]'(by omega))
theorem Rep.pop {lev obj : Int} {b : Br} {st : List Br} (h : Rep lev obj (b :: st)) : Rep (lev - 1) obj st := by
  refine ⟨?_, h.low, h.high, ?_, fun x hx => h.plain x (List.mem_cons_of_mem _ hx), fun j hj => ?_⟩
  · have := h.len
    rw [List.length_cons] at this
    omega
  · have := h.few
    rw [List.length_cons] at this
    omega
  · have hb := h.bits j (by rw [List.length_cons]; omega)
    rw [hb]
    congr 1
    have e : (b :: st).length - 1 - j = (st.length - 1 - j) + 1 := by rw [List.length_cons]; omega
    simp only [e, List.getElem_cons_succ]
theorem wrap_pow (k : Nat) (h : k < 64) : IntKind.u64.wrap (2 ^ k) = ((2 ^ k : Nat) : Int) := by
  have h2 : 2 ^ k < 2 ^ 64 := Nat.pow_lt_pow_right (by decide) h
  rw [IntKind.wrap_u64]
  have e : (2 : Int) ^ k = ((2 ^ k : Nat) : Int) := by norm_cast
  rw [e]
  generalize 2 ^ k = p at h2
  omega
theorem and_pow (o k : Nat) : o &&& 2 ^ k = if o.testBit k = true then 2 ^ k else 0 := by
  apply Nat.eq_of_testBit_eq
  intro i
  rw [Nat.testBit_and, Nat.testBit_two_pow]
  by_cases hk : k = i
  · subst hk
    by_cases h : o.testBit k = true
    · rw [if_pos h, Nat.testBit_two_pow]; simp [h]
    · rw [if_neg h]; simp [h]
  · by_cases h : o.testBit k = true
    · rw [if_pos h, Nat.testBit_two_pow]; simp [hk]
    · rw [if_neg h]; simp [hk]
theorem bit_top {lev obj : Int} {b : Br} {r : List Br} (h : Rep lev obj (b :: r)) : (bits BinOp.and IntKind.u64 obj (IntKind.u64.wrap (2 ^ (lev.toNat - 1))) != 0) = isObj b := by
  have hl := h.len
  have hf := h.few
  rw [List.length_cons] at hl hf
  have e : lev.toNat - 1 = r.length := by omega
  obtain ⟨o, rfl⟩ := Int.eq_ofNat_of_zero_le h.low
  have hh := h.high
  have hb := h.bits r.length (by rw [List.length_cons]; omega)
  have e2 : (b :: r).length - 1 - r.length = 0 := by rw [List.length_cons]; omega
  simp only [e2, List.getElem_cons_zero, Int.toNat_natCast] at hb
  have h2 : 2 ^ r.length < 2 ^ 64 := Nat.pow_lt_pow_right (by decide) (by omega)
  rw [e, wrap_pow _ (by omega), bits_and_u64n o _ (by omega) (by omega), and_pow, hb]
  cases isObj b with
  | false => rw [if_neg (by decide)]; rfl
  | true =>
    have : 0 < 2 ^ r.length := Nat.two_pow_pos _
    rw [if_pos rfl]
    exact bne_iff_ne.mpr (by omega)
theorem Rep.push {lev obj obj' : Int} {b : Br} {st : List Br} (h : Rep lev obj st) (hf : st.length < 64) (hb : Err.plain b = true) (h0 : 0 ≤ obj') (h1 : obj' < 18446744073709551616) (ht : obj'.toNat.testBit st.length = isObj b) (hs : ∀ j, j < st.length → obj'.toNat.testBit j = obj.toNat.testBit j) : Rep (lev + 1) obj' (b :: st) := by
  refine ⟨by have := h.len; rw [List.length_cons]; omega, h0, h1, by rw [List.length_cons]; omega, fun x hx => ?_, fun j hj => ?_⟩
  · rcases List.mem_cons.1 hx with rfl | hx
    · exact hb
    · exact h.plain x hx
  · rw [List.length_cons] at hj
    by_cases hj2 : j = st.length
    · subst hj2
      rw [ht]
      congr 1
      have e : (b :: st).length - 1 - st.length = 0 := by rw [List.length_cons]; omega
      simp only [e, List.getElem_cons_zero]
    · rw [hs j (by omega), h.bits j (by omega)]
      congr 1
      have e : (b :: st).length - 1 - j = (st.length - 1 - j) + 1 := by rw [List.length_cons]; omega
      simp only [e, List.getElem_cons_succ]
theorem Rep.pushObj {lev obj : Int} {st : List Br} (h : Rep lev obj st) (hf : st.length < 64) : Rep (lev + 1) (Go.bits BinOp.or IntKind.u64 obj (IntKind.u64.wrap (2 ^ lev.toNat))) (.obj :: st) := by
  have e : lev.toNat = st.length := by have := h.len; omega
  have hlo := h.low
  have hhi := h.high
  have h2 : 2 ^ st.length < 2 ^ 64 := Nat.pow_lt_pow_right (by decide) hf
  have hk : Go.bits BinOp.or IntKind.u64 obj (IntKind.u64.wrap (2 ^ lev.toNat)) = ((obj.toNat ||| 2 ^ st.length : Nat) : Int) := by
    rw [e, wrap_pow _ hf, ← Swar.bits_or _ _ (by omega) (by omega), Int.toNat_of_nonneg hlo]
  have hlt : obj.toNat ||| 2 ^ st.length < 2 ^ 64 := Nat.or_lt_two_pow (by omega) h2
  rw [hk]
  refine h.push hf rfl (by omega) (by omega) ?_ (fun j hj => ?_)
  · rw [Int.toNat_natCast, Nat.testBit_or, Nat.testBit_two_pow]; simp [isObj]
  · rw [Int.toNat_natCast, Nat.testBit_or, Nat.testBit_two_pow]
    have : ¬ (st.length = j) := by omega
    simp [this]
theorem Rep.pushArr {lev obj : Int} {st : List Br} (h : Rep lev obj st) (hf : st.length < 64) : Rep (lev + 1) (Go.bits BinOp.andNot IntKind.u64 obj (IntKind.u64.wrap (2 ^ lev.toNat))) (.arr :: st) := by
  have e : lev.toNat = st.length := by have := h.len; omega
  have hlo := h.low
  have hhi := h.high
  have h2 : 2 ^ st.length < 2 ^ 64 := Nat.pow_lt_pow_right (by decide) hf
  have hk : Go.bits BinOp.andNot IntKind.u64 obj (IntKind.u64.wrap (2 ^ lev.toNat)) = ((obj.toNat &&& (18446744073709551615 - 2 ^ st.length) : Nat) : Int) := by
    rw [e, wrap_pow _ hf, ← Swar.bits_andNot _ _ (by omega) (by omega), Int.toNat_of_nonneg hlo]
  have hlt : obj.toNat &&& (18446744073709551615 - 2 ^ st.length) < 2 ^ 64 := Nat.lt_of_le_of_lt Nat.and_le_left (by omega)
  have ht : ∀ j, (18446744073709551615 - 2 ^ st.length).testBit j = (decide (j < 64) && !(2 ^ st.length).testBit j) := fun j => by
    rw [← Nat.testBit_two_pow_sub_succ h2]
    congr 1
    omega
  rw [hk]
  refine h.push hf rfl (by omega) (by omega) ?_ (fun j hj => ?_)
  · rw [Int.toNat_natCast, Nat.testBit_and, ht, Nat.testBit_two_pow]; simp [isObj]
  · rw [Int.toNat_natCast, Nat.testBit_and, ht, Nat.testBit_two_pow]
    have h3 : ¬ (st.length = j) := by omega
    have h4 : j < 64 := by omega
    simp [h3, h4]
end Go.Proofs.YtfkagnpdapkaaaaDoor.Err
/- A scope in which the run jumps to several labels: what holds at each jump bears a number that every pass lowers. After the kit's law for one label. -/
namespace Go.Proofs.YtfkagnpdapkaaaaDoor.Err
open Go Go.RowKit
set_option linter.unusedVariables false
/-- As Q; by a goto to label l: J l. -/
def jumps (J : Nat → Act → World → Prop) (Q : Exit → Act → World → Prop) : Exit → Act → World → Prop
  | .goto l, a, w => J l a w
  | e, a, w => Q e a w
section
variable {P : Program} {a : Act} {w : World} {Q : Exit → Act → World → Prop}
theorem wp_scope_labels {c : Code} (J : Nat → Nat → Act → World → Prop) (first : c.wp P (jumps (fun l a w => ∃ n, J n l a w) Q) a w)
    (pass : ∀ n l a w, J n l a w → ∃ rest, findLabel c l = some rest ∧ rest.wp P (jumps (fun l' a' w' => ∃ n', n' < n ∧ J n' l' a' w') Q) a w) : (Code.scope c).wp P Q a w := by
  intro b k cs
  have key : ∀ n l a w, J n l a w → ∀ rest, findLabel c l = some rest → ∃ e a' w', Q e a' w' ∧ Arrives P (lone (b.at a (.code rest :: .inScope c :: k)) cs w) b k cs e a' w' := by
    intro n
    induction n using Nat.strongRecOn with
    | _ n ih =>
      intro l a w hJ rest hr
      obtain ⟨rest', hr', hp⟩ := pass n l a w hJ
      obtain rfl := Option.some.inj (hr'.symm.trans hr)
      obtain ⟨e, a₁, w₁, hq, harr⟩ := hp b (.inScope c :: k) cs
      cases e with
      | normal => exact ⟨.normal, a₁, w₁, hq, Steps.trans harr (.one step_inScope)⟩
      | exit id => exact ⟨.exit id, a₁, w₁, hq, fun k' hk => harr k' (by simp [exitTo, hk])⟩
      | goto l' =>
        obtain ⟨n', hlt, hJ'⟩ := hq
        obtain ⟨r2, hr2, _⟩ := pass n' l' a₁ w₁ hJ'
        have hg : gotoIn l' (.inScope c :: k) = some (.code r2 :: .inScope c :: k) := by simp [gotoIn, hr2]
        obtain ⟨e₂, a₂, w₂, hq₂, harr₂⟩ := ih n' hlt l' a₁ w₁ hJ' r2 hr2
        exact ⟨e₂, a₂, w₂, hq₂, .of_steps (harr _ hg) harr₂⟩
      | ret => exact ⟨_, a₁, w₁, hq, harr⟩
      | panic ch => exact ⟨_, a₁, w₁, hq, harr⟩
      | outgrown => exact ⟨_, a₁, w₁, hq, harr⟩
  obtain ⟨e, a₁, w₁, hq, harr⟩ := first b (.inScope c :: k) cs
  cases e with
  | normal => exact ⟨.normal, a₁, w₁, hq, .head step_scope (Steps.trans harr (.one step_inScope))⟩
  | exit id => exact ⟨.exit id, a₁, w₁, hq, fun k' hk => .head step_scope (harr k' (by simp [exitTo, hk]))⟩
  | goto l' =>
    obtain ⟨n, hJ'⟩ := hq
    obtain ⟨r2, hr2, _⟩ := pass n l' a₁ w₁ hJ'
    have hg : gotoIn l' (.inScope c :: k) = some (.code r2 :: .inScope c :: k) := by simp [gotoIn, hr2]
    obtain ⟨e₂, a₂, w₂, hq₂, harr₂⟩ := key n l' a₁ w₁ hJ' r2 hr2
    exact ⟨e₂, a₂, w₂, hq₂, .of_steps (.head step_scope (harr _ hg)) harr₂⟩
  | ret => exact ⟨_, a₁, w₁, hq, .of_steps (.one step_scope) harr⟩
  | panic ch => exact ⟨_, a₁, w₁, hq, .of_steps (.one step_scope) harr⟩
  | outgrown => exact ⟨_, a₁, w₁, hq, .of_steps (.one step_scope) harr⟩
end
end Go.Proofs.YtfkagnpdapkaaaaDoor.Err
/- The frame of skipFast, and what holds of it. -/
namespace Go.Proofs.YtfkagnpdapkaaaaDoor.Err
open Go.RowKit Go.Proofs.YtfkagnpdapkaaaaDoorW.PrintWords Go.Proofs.YtfkagnpdapkaaaaDoorW.PrintLast Go.Proofs.YtfkagnpdapkaaaaDoorW.PrintMore
open Go.Proofs.YtfkagnpdapkaaaaDoor.Tab
set_option linter.unusedVariables false
theorem list_range (n : Nat) (l : List Value) (h : l.length = n) : l = (List.range n).map fun i => l.getD i undef := by
  apply List.ext_getElem
  · simp [h]
  · intro i h1 h2
    simp [h1]
set_option maxRecDepth 100000 in
/-- An array of 398 values, written out. -/
theorem lit398 (A : Array Value) (h : A.size = 398) : ∃ f : Nat → Value, A = #[f 0, f 1, f 2, f 3, f 4, f 5, f 6, f 7, f 8, f 9, f 10, f 11, f 12, f 13, f 14, f 15, f 16, f 17, f 18, f 19, f 20, f 21, f 22, f 23, f 24, f 25, f 26, f 27, f 28, f 29, f 30, f 31, f 32, f 33, f 34, f 35, f 36, f 37, f 38, f 39, f 40, f 41, f 42, f 43, f 44, f 45, f 46, f 47, f 48, f 49, f 50, f 51, f 52, f 53, f 54, f 55, f 56, f 57, f 58, f 59, f 60, f 61, f 62, f 63, f 64, f 65, f 66, f 67, f 68, f 69, f 70, f 71, f 72, f 73, f 74, f 75, f 76, f 77, f 78, f 79, f 80, f 81, f 82, f 83, f 84, f 85, f 86, f 87, f 88, f 89, f 90, f 91, f 92, f 93, f 94, f 95, f 96, f 97, f 98, f 99, f 100, f 101, f 102, f 103, f 104, f 105, f 106, f 107, f 108, f 109, f 110, f 111, f 112, f 113, f 114, f 115, f 116, f 117, f 118, f 119, f 120, f 121, f 122, f 123, f 124, f 125, f 126, f 127, f 128, f 129, f 130, f 131, f 132, f 133, f 134, f 135, f 136, f 137, f 138, f 139, f 140, f 141, f 142, f 143, f 144, f 145, f 146, f 147, f 148, f 149, f 150, f 151, f 152, f 153, f 154, f 155, f 156, f 157, f 158, f 159, f 160, f 161, f 162, f 163, f 164, f 165, f 166, f 167, f 168, f 169, f 170, f 171, f 172, f 173, f 174, f 175, f 176, f 177, f 178, f 179, f 180, f 181, f 182, f 183, f 184, f 185, f 186, f 187, f 188, f 189, f 190, f 191, f 192, f 193, f 194, f 195, f 196, f 197, f 198, f 199, f 200, f 201, f 202, f 203, f 204, f 205, f 206, f 207, f 208, f 209, f 210, f 211, f 212, f 213, f 214, f 215, f 216, f 217, f 218, f 219, f 220, f 221, f 222, f 223, f 224, f 225, f 226, f 227, f 228, f 229, f 230, f 231, f 232, f 233, f 234, f 235, f 236, f 237, f 238, f 239, f 240, f 241, f 242, f 243, f 244, f 245, f 246, f 247, f 248, f 249, f 250, f 251, f 252, f 253, f 254, f 255, f 256, f 257, f 258, f 259, f 260, f 261, f 262, f 263, f 264, f 265, f 266, f 267, f 268, f 269, f 270, f 271, f 272, f 273, f 274, f 275, f 276, f 277, f 278, f 279, f 280, f 281, f 282, f 283, f 284, f 285, f 286, f 287, f 288, f 289, f 290, f 291, f 292, f 293, f 294, f 295, f 296, f 297, f 298, f 299, f 300, f 301, f 302, f 303, f 304, f 305, f 306, f 307, f 308, f 309, f 310, f 311, f 312, f 313, f 314, f 315, f 316, f 317, f 318, f 319, f 320, f 321, f 322, f 323, f 324, f 325, f 326, f 327, f 328, f 329, f 330, f 331, f 332, f 333, f 334, f 335, f 336, f 337, f 338, f 339, f 340, f 341, f 342, f 343, f 344, f 345, f 346, f 347, f 348, f 349, f 350, f 351, f 352, f 353, f 354, f 355, f 356, f 357, f 358, f 359, f 360, f 361, f 362, f 363, f 364, f 365, f 366, f 367, f 368, f 369, f 370, f 371, f 372, f 373, f 374, f 375, f 376, f 377, f 378, f 379, f 380, f 381, f 382, f 383, f 384, f 385, f 386, f 387, f 388, f 389, f 390, f 391, f 392, f 393, f 394, f 395, f 396, f 397] ∧ ∀ i, A.getD i undef = f i := by
  refine ⟨fun i => A.getD i undef, ?_, fun _ => rfl⟩
  obtain ⟨l⟩ := A
  have e := list_range 398 l h
  have e2 : ∀ i, (⟨l⟩ : Array Value).getD i undef = l.getD i undef := fun i => by simp
  simp only [e2]
  apply congrArg Array.mk
  exact e
theorem wp_cut {P : Program} {x y : Code} {a : Act} {w : World} {Q : Exit → Act → World → Prop} (M : Act → World → Prop) (h1 : ∀ K : Act → World → Prop, (∀ a w, M a w → K a w) → x.wp P (Exit.then K Q) a w) (h2 : ∀ a w, M a w → y.wp P Q a w) : (Code.seq x y).wp P Q a w :=
  wp_seq (h1 _ h2)
def scopeOf (f : Func) : Code := match f.body with
  | some (.seq _ (.scope c)) => c
  | _ => .ret
end Go.Proofs.YtfkagnpdapkaaaaDoor.Err
/- What holds at skipFast's labels and of its answers. -/
namespace Go.Proofs.YtfkagnpdapkaaaaDoor.Err
open Go.RowKit Go.Proofs.YtfkagnpdapkaaaaDoorW.PrintWords Go.Proofs.YtfkagnpdapkaaaaDoorW.PrintLast Go.Proofs.YtfkagnpdapkaaaaDoorW.PrintMore
open Go.Proofs.YtfkagnpdapkaaaaDoor.Tab
set_option linter.unusedVariables false
/-- What holds at a label. -/
def Lab (q : ByteArray → ByteArray) (L : List Int) (O : Out) (x cb : Int) (st : List Br) : Nat → Prop
  | 0 => st ≠ [] ∧ out q L (closed st).1 (closed st).2 x = O
  | 1 => (∃ r, st = .obj :: r) ∧ out q L .colon st x = O
  | 2 => out q L .val st x = O ∧ (st ≠ [] ∨ rd L x = 123 ∨ rd L x = 91)
  | 3 => st ≠ [] ∧ contO q L st.tail x = O
  | 4 => (∃ r, st = .obj :: r) ∧ out q L .name st x = O ∧ cb = rd L x ∧ ¬ isBlank (rd L x)
  | _ => False
/-- What skipFast tells at its end. -/
def Ev (q : ByteArray → ByteArray) (L : List Int) (O : Out) (mx x lev : Int) (st : List Br) (res ev : Int) : Prop :=
  (ev = 0 ∧ O = .done x) ∨
  (ev = 1 ∧ rd L x = 34 ∧ ((res = 1 ∧ st ≠ [] ∧ O = out q L .text st (x + 1)) ∨ (res = 2 ∧ ∃ r, st = .obj :: r ∧ O = out q L .text (.key :: r) (x + 1)))) ∨
  (ev = 2 ∧ res = 1 ∧ st ≠ [] ∧ (rd L x = 45 ∨ isDig (rd L x)) ∧ O = out q L .val st x) ∨
  (ev = 3 ∧ res = 0 ∧ lev + 1 > mx ∧ (rd L x = 123 ∨ rd L x = 91) ∧ O = out q L .val st x) ∨
  (ev = 4 ∧ ¬ isBlank (rd L x) ∧ (
    (res = 0 ∧ st ≠ [] ∧ O = out q L .val st x ∧ rd L x ≠ 34 ∧ rd L x ≠ 123 ∧ rd L x ≠ 91 ∧ rd L x ≠ 45 ∧ ¬ isDig (rd L x) ∧ (rd L x = 116 → ∃ k, Mis L x lTrue k) ∧ (rd L x = 102 → ∃ k, Mis L x lFalse k) ∧ (rd L x = 110 → ∃ k, Mis L x lNull k)) ∨
    (res = 1 ∧ ((∃ r, st = .obj :: r ∧ rd L x ≠ 44 ∧ rd L x ≠ 125) ∨ (∃ r, st = .arr :: r ∧ rd L x ≠ 44 ∧ rd L x ≠ 93)) ∧ O = out q L (closed st).1 (closed st).2 x) ∨
    (res = 2 ∧ (∃ r, st = .obj :: r) ∧ rd L x ≠ 58 ∧ O = out q L .colon st x) ∨
    (res = 3 ∧ (∃ r, st = .obj :: r) ∧ rd L x ≠ 34 ∧ O = out q L .name st x)))
/-- What every frame holds. -/
structure Fr (ad : Addr) (c : Nat) (L : List Int) (mx : Int) (w0 : World) (a : Act) (w : World) : Prop where
  defers : a.defers = []
  size : a.tmps.size = 398
  s0 : a.tmps.getD 0 undef = .slice (some ad) L.length c
  s5 : a.tmps.getD 5 undef = .int .i64 mx
  s17 : a.tmps.getD 17 undef = .int .i64 L.length
  s18 : a.tmps.getD 18 undef = .slice (some ad) L.length c
  drawn : Drawn0 w0 w
/-- A frame and what holds of its cursor, level, kinds and byte. -/
def MS (ad : Addr) (c : Nat) (L : List Int) (mx : Int) (w0 : World) (P : Int → Int → Int → Int → Prop) (a : Act) (w : World) : Prop :=
  Fr ad c L mx w0 a w ∧ ∃ x lev obj cb, a.tmps.getD 1 undef = .int .i64 x ∧ a.tmps.getD 2 undef = .int .i64 lev ∧ a.tmps.getD 3 undef = .int .u64 obj ∧ a.tmps.getD 19 undef = .int .u8 cb ∧ P x lev obj cb
set_option maxRecDepth 100000 in
theorem ms_open {ad : Addr} {c : Nat} {L : List Int} {mx : Int} {w0 : World} {P : Int → Int → Int → Int → Prop} {a : Act} {w : World} (h : MS ad c L mx w0 P a w) :
    ∃ (f : Nat → Value) (x lev obj cb : Int) (m : Nat), a = ⟨#[.slice (some ad) L.length c, .int .i64 x, .int .i64 lev, .int .u64 obj, f 4, .int .i64 mx, f 6, f 7, f 8, f 9, f 10, f 11, f 12, f 13, f 14, f 15, f 16, .int .i64 L.length, .slice (some ad) L.length c, .int .u8 cb, f 20, f 21, f 22, f 23, f 24, f 25, f 26, f 27, f 28, f 29, f 30, f 31, f 32, f 33, f 34, f 35, f 36, f 37, f 38, f 39, f 40, f 41, f 42, f 43, f 44, f 45, f 46, f 47, f 48, f 49, f 50, f 51, f 52, f 53, f 54, f 55, f 56, f 57, f 58, f 59, f 60, f 61, f 62, f 63, f 64, f 65, f 66, f 67, f 68, f 69, f 70, f 71, f 72, f 73, f 74, f 75, f 76, f 77, f 78, f 79, f 80, f 81, f 82, f 83, f 84, f 85, f 86, f 87, f 88, f 89, f 90, f 91, f 92, f 93, f 94, f 95, f 96, f 97, f 98, f 99, f 100, f 101, f 102, f 103, f 104, f 105, f 106, f 107, f 108, f 109, f 110, f 111, f 112, f 113, f 114, f 115, f 116, f 117, f 118, f 119, f 120, f 121, f 122, f 123, f 124, f 125, f 126, f 127, f 128, f 129, f 130, f 131, f 132, f 133, f 134, f 135, f 136, f 137, f 138, f 139, f 140, f 141, f 142, f 143, f 144, f 145, f 146, f 147, f 148, f 149, f 150, f 151, f 152, f 153, f 154, f 155, f 156, f 157, f 158, f 159, f 160, f 161, f 162, f 163, f 164, f 165, f 166, f 167, f 168, f 169, f 170, f 171, f 172, f 173, f 174, f 175, f 176, f 177, f 178, f 179, f 180, f 181, f 182, f 183, f 184, f 185, f 186, f 187, f 188, f 189, f 190, f 191, f 192, f 193, f 194, f 195, f 196, f 197, f 198, f 199, f 200, f 201, f 202, f 203, f 204, f 205, f 206, f 207, f 208, f 209, f 210, f 211, f 212, f 213, f 214, f 215, f 216, f 217, f 218, f 219, f 220, f 221, f 222, f 223, f 224, f 225, f 226, f 227, f 228, f 229, f 230, f 231, f 232, f 233, f 234, f 235, f 236, f 237, f 238, f 239, f 240, f 241, f 242, f 243, f 244, f 245, f 246, f 247, f 248, f 249, f 250, f 251, f 252, f 253, f 254, f 255, f 256, f 257, f 258, f 259, f 260, f 261, f 262, f 263, f 264, f 265, f 266, f 267, f 268, f 269, f 270, f 271, f 272, f 273, f 274, f 275, f 276, f 277, f 278, f 279, f 280, f 281, f 282, f 283, f 284, f 285, f 286, f 287, f 288, f 289, f 290, f 291, f 292, f 293, f 294, f 295, f 296, f 297, f 298, f 299, f 300, f 301, f 302, f 303, f 304, f 305, f 306, f 307, f 308, f 309, f 310, f 311, f 312, f 313, f 314, f 315, f 316, f 317, f 318, f 319, f 320, f 321, f 322, f 323, f 324, f 325, f 326, f 327, f 328, f 329, f 330, f 331, f 332, f 333, f 334, f 335, f 336, f 337, f 338, f 339, f 340, f 341, f 342, f 343, f 344, f 345, f 346, f 347, f 348, f 349, f 350, f 351, f 352, f 353, f 354, f 355, f 356, f 357, f 358, f 359, f 360, f 361, f 362, f 363, f 364, f 365, f 366, f 367, f 368, f 369, f 370, f 371, f 372, f 373, f 374, f 375, f 376, f 377, f 378, f 379, f 380, f 381, f 382, f 383, f 384, f 385, f 386, f 387, f 388, f 389, f 390, f 391, f 392, f 393, f 394, f 395, f 396, f 397], []⟩ ∧ w = w0.drewN m ∧ P x lev obj cb := by
  obtain ⟨hF, x, lev, obj, cb, h1, h2, h3, h19, hP⟩ := h
  obtain ⟨A, D⟩ := a
  obtain ⟨hd, hs, h0, h5, h17, h18, hdr⟩ := hF
  obtain rfl : D = [] := hd
  obtain ⟨f, rfl, hf⟩ := lit398 A hs
  rw [hf] at h0 h1 h2 h3 h5 h17 h18 h19
  obtain ⟨m, rfl⟩ := hdr
  refine ⟨f, x, lev, obj, cb, m, ?_, rfl, hP⟩
  rw [h0, h1, h2, h3, h5, h17, h18, h19]
/-- At label l, n passes at most before the end. -/
def JS (q : ByteArray → ByteArray) (ad : Addr) (c : Nat) (L : List Int) (mx K X0 : Int) (O : Out) (w0 : World) (n l : Nat) (a : Act) (w : World) : Prop :=
  MS ad c L mx w0 (fun x lev obj cb => ∃ st, X0 ≤ x ∧ x < L.length ∧ lev - x ≤ K ∧ Rep lev obj st ∧ 2 * (L.length - x) + (if l = 3 then 1 else 0) = n ∧ Lab q L O x cb st l) a w
/-- At the end. -/
def RS (q : ByteArray → ByteArray) (L : List Int) (mx K X0 : Int) (O : Out) (w0 : World) (a : Act) (w : World) : Prop :=
  a.defers = [] ∧ Drawn0 w0 w ∧ ∃ x lev obj st res ev, a.tmps.getD 12 undef = .int .i64 x ∧ a.tmps.getD 13 undef = .int .i64 lev ∧ a.tmps.getD 14 undef = .int .u64 obj ∧ a.tmps.getD 15 undef = .int .u8 res ∧ a.tmps.getD 16 undef = .int .u8 ev ∧
    X0 ≤ x ∧ x < L.length ∧ lev - x ≤ K ∧ Rep lev obj st ∧ Ev q L O mx x lev st res ev
set_option maxRecDepth 100000 in
set_option maxHeartbeats 4000000 in
theorem pass3 (q : ByteArray → ByteArray) (ad : Addr) (c : Nat) (L : List Int) (mx K X0 : Int) (O : Out) (w0 : World) (hX0 : 0 ≤ X0) (hB : Buf w0 ad c L) (Y : Code) (hY : findLabel (scopeOf Tryd.f114) 3 = some (Code.skip.seq Y)) (n : Nat) (a : Act) (w : World) (Q : Exit → Act → World → Prop)
    (hJ : JS q ad c L mx K X0 O w0 n 3 a w) (hQ : ∀ l a' w', (∃ n', n' < n ∧ JS q ad c L mx K X0 O w0 n' l a' w') → Q (.goto l) a' w') (hR : ∀ a' w', RS q L mx K X0 O w0 a' w' → Q .ret a' w') : Y.wp Tryd.prog Q a w := by
  have e : some (Code.skip.seq _) = some (Code.skip.seq Y) := hY
  cases e
  clear hY
  obtain ⟨f, x, lev, obj, cb, m, rfl, rfl, st, hx0, hx1, hk, hrep, hn, hlab⟩ := ms_open hJ
  clear hJ
  have hlen := hrep.len
  have hfew := hrep.few
  obtain ⟨hne, hO⟩ := hlab
  obtain _ | ⟨b, r⟩ := st
  · exact absurd rfl hne
  have hl1 : 1 ≤ lev ∧ lev ≤ 64 := by rw [List.length_cons] at hlen hfew; omega
  have hr0 : lev = (r.length : Int) + 1 := by rw [List.length_cons] at hlen; omega
  have HQ := Aside0.mk hQ
  have HR := Aside0.mk hR
  have HREP := Aside0.mk hrep.pop
  have HL := Aside0.mk hO
  have HLEN := Aside0.mk hr0
  have HN := Aside0.mk hn
  have hsm := hB.small
  clear hQ hR hrep hO hB hn hlen hfew hne hr0
  by_cases cz : lev = 1
  · subst cz
    have hr : r = [] := by have := HLEN.out; cases r with | nil => rfl | cons a l => rw [List.length_cons] at this; omega
    go_wp2
    refine HR.out _ _ ⟨rfl, ⟨m, rfl⟩, x, 0, obj, r, 1, 0, rfl, rfl, rfl, rfl, rfl, hx0, hx1, by omega, HREP.out, .inl ⟨rfl, ?_⟩⟩
    rw [← HL.out, hr]
    rfl
  · have f1 : (lev - 1 == 0) = false := beq_eq_false_iff_ne.mpr (by omega)
    clear cz
    go_wp2
    refine wp_goto (HQ.out _ _ _ ⟨n - 1, by have := HN.out; simp at this; omega, ⟨rfl, rfl, rfl, rfl, rfl, rfl, ⟨m, rfl⟩⟩, x, lev - 1, obj, cb, rfl, rfl, rfl, rfl, r, hx0, hx1, by omega, HREP.out, by have := HN.out; simp at this ⊢; omega, ?_⟩)
    have hr : r ≠ [] := fun h => by have := HLEN.out; rw [h] at this; simp at f1; exact f1 (by rw [this]; rfl)
    refine ⟨hr, ?_⟩
    rw [← HL.out]
    unfold contO
    rw [if_neg (by rw [closed_all _ (by exact hr)]; decide)]
    rfl
end Go.Proofs.YtfkagnpdapkaaaaDoor.Err
/- Eight bytes of a text as a word, and the first of them that ends plain bytes. -/
namespace Go.Proofs.YtfkagnpdapkaaaaDoor.Key
open Go.RowKit Go.Proofs.YtfkagnpdapkaaaaDoor.QF Go.Proofs.YtfkagnpdapkaaaaDoorW.PrintWords Go.Proofs.YtfkagnpdapkaaaaDoorW.PrintLast Go.Proofs.YtfkagnpdapkaaaaDoorW.PrintMore Go.Proofs.YtfkagnpdapkaaaaDoor.Swar Go.Proofs.YtfkagnpdapkaaaaDoor.Dig Go.Proofs.YtfkagnpdapkaaaaDoor.Tab Go.Proofs.YtfkagnpdapkaaaaDoor.Err
set_option linter.unusedVariables false
theorem wrapu (n : Nat) (h : n < 18446744073709551616) : IntKind.u64.wrap (n : Int) = (n : Int) := by rw [IntKind.wrap_u64]; omega
theorem or8 (b0 b1 b2 b3 b4 b5 b6 b7 : Nat) (h0 : b0 < 256) (h1 : b1 < 256) (h2 : b2 < 256) (h3 : b3 < 256) (h4 : b4 < 256) (h5 : b5 < 256) (h6 : b6 < 256) (h7 : b7 < 256) :
    Go.bits .or .u64 (Go.bits .or .u64 (Go.bits .or .u64 (Go.bits .or .u64 (Go.bits .or .u64 (Go.bits .or .u64 (Go.bits .or .u64 (b0 : Int) ((b1 * 256 ^ 1 : Nat) : Int)) ((b2 * 256 ^ 2 : Nat) : Int)) ((b3 * 256 ^ 3 : Nat) : Int)) ((b4 * 256 ^ 4 : Nat) : Int)) ((b5 * 256 ^ 5 : Nat) : Int)) ((b6 * 256 ^ 6 : Nat) : Int)) ((b7 * 256 ^ 7 : Nat) : Int)
      = ((hw [b0, b1, b2, b3, b4, b5, b6, b7] : Nat) : Int) := by
  rw [or_place b0 b1 1 (by decide) (by omega) h1, or_place (b0 + 256 ^ 1 * b1) b2 2 (by decide) (by omega) h2, or_place (b0 + 256 ^ 1 * b1 + 256 ^ 2 * b2) b3 3 (by decide) (by omega) h3,
    or_place (b0 + 256 ^ 1 * b1 + 256 ^ 2 * b2 + 256 ^ 3 * b3) b4 4 (by decide) (by omega) h4, or_place (b0 + 256 ^ 1 * b1 + 256 ^ 2 * b2 + 256 ^ 3 * b3 + 256 ^ 4 * b4) b5 5 (by decide) (by omega) h5,
    or_place (b0 + 256 ^ 1 * b1 + 256 ^ 2 * b2 + 256 ^ 3 * b3 + 256 ^ 4 * b4 + 256 ^ 5 * b5) b6 6 (by decide) (by omega) h6, or_place (b0 + 256 ^ 1 * b1 + 256 ^ 2 * b2 + 256 ^ 3 * b3 + 256 ^ 4 * b4 + 256 ^ 5 * b5 + 256 ^ 6 * b6) b7 7 (by decide) (by omega) h7]
  congr 1
  simp only [hw]
  omega
theorem rd_byte (l : List Int) (hb : Bytes l) (i : Nat) : ∃ n : Nat, rd l (i : Int) = (n : Int) ∧ n < 256 ∧ (rd l (i : Int)).toNat = n := by
  have := rd_mem hb i
  exact ⟨(rd l (i : Int)).toNat, by omega, by omega, rfl⟩
theorem le64_f (l : List Int) (hb : Bytes l) (i : Nat) (h : i + 8 ≤ l.length) : gojson_le64.f (l.drop i) = some ((hw (nb l 8 i) : Nat) : Int) := by
  obtain ⟨b0, e0, h0, f0⟩ := rd_byte l hb (i + 0)
  obtain ⟨b1, e1, h1, f1⟩ := rd_byte l hb (i + 1)
  obtain ⟨b2, e2, h2, f2⟩ := rd_byte l hb (i + 2)
  obtain ⟨b3, e3, h3, f3⟩ := rd_byte l hb (i + 3)
  obtain ⟨b4, e4, h4, f4⟩ := rd_byte l hb (i + 4)
  obtain ⟨b5, e5, h5, f5⟩ := rd_byte l hb (i + 5)
  obtain ⟨b6, e6, h6, f6⟩ := rd_byte l hb (i + 6)
  obtain ⟨b7, e7, h7, f7⟩ := rd_byte l hb (i + 7)
  have hl : ((l.drop i).length : Int) = (l.length : Int) - i := by rw [List.length_drop]; omega
  have hn : nb l 8 i = [b0, b1, b2, b3, b4, b5, b6, b7] := by
    simp only [nb]
    rw [show i + 1 + 1 + 1 + 1 + 1 + 1 + 1 = i + 7 from rfl, show i + 1 + 1 + 1 + 1 + 1 + 1 = i + 6 from rfl, show i + 1 + 1 + 1 + 1 + 1 = i + 5 from rfl, show i + 1 + 1 + 1 + 1 = i + 4 from rfl, show i + 1 + 1 + 1 = i + 3 from rfl, show i + 1 + 1 = i + 2 from rfl, f1, f2, f3, f4, f5, f6, f7]
    rw [show (i : Int) = ((i + 0 : Nat) : Int) from rfl, f0]
  unfold gojson_le64.f
  rw [hl, if_pos (by omega), if_pos (by omega), if_pos (by omega), if_pos (by omega), if_pos (by omega), if_pos (by omega), if_pos (by omega), if_pos (by omega)]
  have r := rd_drop l i
  have r0 := r 0; have r1 := r 1; have r2 := r 2; have r3 := r 3; have r4 := r 4; have r5 := r 5; have r6 := r 6; have r7 := r 7
  rw [e0] at r0; rw [e1] at r1; rw [e2] at r2; rw [e3] at r3; rw [e4] at r4; rw [e5] at r5; rw [e6] at r6; rw [e7] at r7
  rw [show rd (l.drop i) 0 = (b0 : Int) from r0, show rd (l.drop i) 1 = (b1 : Int) from r1, show rd (l.drop i) 2 = (b2 : Int) from r2, show rd (l.drop i) 3 = (b3 : Int) from r3, show rd (l.drop i) 4 = (b4 : Int) from r4, show rd (l.drop i) 5 = (b5 : Int) from r5, show rd (l.drop i) 6 = (b6 : Int) from r6, show rd (l.drop i) 7 = (b7 : Int) from r7]
  rw [wrapu b0 (by omega), wrapu b1 (by omega), wrapu b2 (by omega), wrapu b3 (by omega), wrapu b4 (by omega), wrapu b5 (by omega), wrapu b6 (by omega), wrapu b7 (by omega)]
  rw [show IntKind.u64.wrap ((b1 : Int) * 256) = ((b1 * 256 ^ 1 : Nat) : Int) from by rw [IntKind.wrap_u64]; omega, show IntKind.u64.wrap ((b2 : Int) * 65536) = ((b2 * 256 ^ 2 : Nat) : Int) from by rw [IntKind.wrap_u64]; omega,
    show IntKind.u64.wrap ((b3 : Int) * 16777216) = ((b3 * 256 ^ 3 : Nat) : Int) from by rw [IntKind.wrap_u64]; omega, show IntKind.u64.wrap ((b4 : Int) * 4294967296) = ((b4 * 256 ^ 4 : Nat) : Int) from by rw [IntKind.wrap_u64]; omega,
    show IntKind.u64.wrap ((b5 : Int) * 1099511627776) = ((b5 * 256 ^ 5 : Nat) : Int) from by rw [IntKind.wrap_u64]; omega, show IntKind.u64.wrap ((b6 : Int) * 281474976710656) = ((b6 * 256 ^ 6 : Nat) : Int) from by rw [IntKind.wrap_u64]; omega,
    show IntKind.u64.wrap ((b7 : Int) * 72057594037927936) = ((b7 * 256 ^ 7 : Nat) : Int) from by rw [IntKind.wrap_u64]; omega]
  rw [or8 b0 b1 b2 b3 b4 b5 b6 b7 h0 h1 h2 h3 h4 h5 h6 h7, hn]

theorem rep8 (l : List Nat) (hl : l.length = 8) (c : Nat) : hw (List.replicate 8 c) = hw (List.replicate l.length c) := by rw [hl]
theorem sub_wrap (a c : Nat) (ha : a < 18446744073709551616) (hc : c < 18446744073709551616) : IntKind.u64.wrap ((a : Int) - (c : Int)) = (((a + 18446744073709551616 - c) % 18446744073709551616 : Nat) : Int) := by
  rw [IntKind.wrap_u64]; omega
theorem key_word (l : List Nat) (hl : l.length = 8) (h : Bs l) : gojson_keyEndBytes.f ((hw l : Nat) : Int) = some ((mask l : Nat) : Int) := by
  have lt : hw l < 18446744073709551616 := by have := hw_lt l h; rw [hl] at this; exact this
  have lq : hw (l.map (· ^^^ 34)) < 18446744073709551616 := by have := hw_lt _ (xor_bs l 34 (by decide) h); rw [len_map, hl] at this; exact this
  have ls : hw (l.map (· ^^^ 92)) < 18446744073709551616 := by have := hw_lt _ (xor_bs l 92 (by decide) h); rw [len_map, hl] at this; exact this
  have eq1 : Go.bits .xor .u64 ((hw l : Nat) : Int) 2459565876494606882 = ((hw (l.map (· ^^^ 34)) : Nat) : Int) := by
    rw [← hw_xor l 34 h (by decide), hl]
    exact bits_xor (hw l) 2459565876494606882 lt (by decide)
  have eq2 : Go.bits .xor .u64 ((hw l : Nat) : Int) 6655295901103053916 = ((hw (l.map (· ^^^ 92)) : Nat) : Int) := by
    rw [← hw_xor l 92 h (by decide), hl]
    exact bits_xor (hw l) 6655295901103053916 lt (by decide)
  unfold gojson_keyEndBytes.f
  rw [eq1, eq2]
  rw [show (72340172838076673 : Int) = ((72340172838076673 : Nat) : Int) from rfl, show (2314885530818453536 : Int) = ((2314885530818453536 : Nat) : Int) from rfl, show (9259542123273814144 : Int) = ((9259542123273814144 : Nat) : Int) from rfl]
  rw [sub_wrap _ _ lq (by decide), sub_wrap _ _ ls (by decide), sub_wrap _ _ lt (by decide)]
  have m (x : Nat) : x % 18446744073709551616 < 18446744073709551616 := Nat.mod_lt _ (by decide)
  have al (x y : Nat) (hx : x < 18446744073709551616) : x &&& y < 18446744073709551616 := Nat.lt_of_le_of_lt Nat.and_le_left hx
  rw [Swar.bits_andNot _ _ (m _) lq, Swar.bits_andNot _ _ (m _) ls, Swar.bits_andNot _ _ (m _) lt]
  rw [Swar.bits_or _ _ (al _ _ (m _)) (al _ _ (m _)), Swar.bits_or _ _ (Nat.or_lt_two_pow (n := 64) (al _ _ (m _)) (al _ _ (m _))) (al _ _ (m _)), Swar.bits_and _ _ (Nat.or_lt_two_pow (n := 64) (Nat.or_lt_two_pow (n := 64) (al _ _ (m _)) (al _ _ (m _))) (al _ _ (m _))) (by decide)]
  unfold mask comp
  rw [hl]
  rfl
end Go.Proofs.YtfkagnpdapkaaaaDoor.Key
/- Plain bytes by words: what eight bytes at a place tell. -/
namespace Go.Proofs.YtfkagnpdapkaaaaDoor.Err
open Go.RowKit Go.Proofs.YtfkagnpdapkaaaaDoor.QF Go.Proofs.YtfkagnpdapkaaaaDoorW.PrintWords Go.Proofs.YtfkagnpdapkaaaaDoorW.PrintLast Go.Proofs.YtfkagnpdapkaaaaDoorW.PrintMore Go.Proofs.YtfkagnpdapkaaaaDoor.Swar Go.Proofs.YtfkagnpdapkaaaaDoor.Dig Go.Proofs.YtfkagnpdapkaaaaDoor.Tab Go.Proofs.YtfkagnpdapkaaaaDoor.Key
set_option linter.unusedVariables false
/-- A byte of a text that is told by itself. -/
def Plain (b : Int) : Prop := 32 ≤ b ∧ b ≠ 34 ∧ b ≠ 92
theorem Txt.list {L : List Int} (h : Txt L) : Bytes L := by
  intro x hx
  obtain ⟨i, hi, rfl⟩ := List.mem_iff_getElem.1 hx
  have := h.bytes (i : Int) (by omega) (by omega)
  obtain ⟨_, e⟩ := rd_get L (i : Int) (by omega) (by omega)
  simp only [Int.toNat_natCast] at e
  rwa [e] at this
theorem nb_get (l : List Int) : ∀ n i j, j < n → (nb l n i).getD j 0 = (rd l ((i + j : Nat) : Int)).toNat := by
  intro n
  induction n with
  | zero => intro i j h; omega
  | succ n ih =>
    intro i j h
    cases j with
    | zero => rfl
    | succ j =>
      have := ih (i + 1) j (by omega)
      rw [show i + (j + 1) = i + 1 + j by omega, ← this]
      rfl
theorem special_plain {b : Int} (h0 : 0 ≤ b) : (special b.toNat = false → Plain b) ∧ (special b.toNat = true → ¬ Plain b) := by
  unfold special Plain
  constructor
  · intro h
    have := of_decide_eq_false h
    omega
  · intro h
    have := of_decide_eq_true h
    omega
theorem word_at {L : List Int} (hT : Txt L) (c : Int) (h0 : 0 ≤ c) (h8 : c + 8 ≤ L.length) : ∃ W S, gojson_load64.f L c = some W ∧ gojson_keyEndBytes.f W = some S ∧
    ((S = 0 ∧ ∀ k, c ≤ k → k < c + 8 → Plain (rd L k)) ∨ (S ≠ 0 ∧ ∃ j : Int, 0 ≤ j ∧ j < 8 ∧ tz64.f S = some (8 * j + 7) ∧ (∀ k, c ≤ k → k < c + j → Plain (rd L k)) ∧ ¬ Plain (rd L (c + j)))) := by
  obtain ⟨i, rfl⟩ := Int.eq_ofNat_of_zero_le h0
  have hb := hT.list
  have hl := nb_length L 8 i
  have hbs := nb_bs L hb 8 i
  have get : ∀ j, j < 8 → (nb L 8 i).getD j 0 = (rd L ((i : Int) + j)).toNat := fun j hj => by
    rw [nb_get L 8 i j hj, show (((i + j : Nat)) : Int) = (i : Int) + j by omega]
  have pos : ∀ j : Nat, j < 8 → 0 ≤ rd L ((i : Int) + j) := fun j hj => (hT.bytes _ (by omega) (by omega)).1
  refine ⟨((hw (nb L 8 i) : Nat) : Int), ((mask (nb L 8 i) : Nat) : Int), ?_, key_word _ hl hbs, ?_⟩
  · unfold gojson_load64.f
    rw [if_pos h0, if_pos (by omega), Int.toNat_natCast, le64_f L hb i (by omega)]
    rfl
  · by_cases hm : mask (nb L 8 i) = 0
    · refine .inl ⟨by rw [hm]; rfl, fun k h1 h2 => ?_⟩
      obtain ⟨j, rfl⟩ : ∃ j : Nat, k = (i : Int) + j := ⟨(k - i).toNat, by omega⟩
      have hj : j < 8 := by omega
      have := mask_zero _ hbs hm ((nb L 8 i).getD j 0) (by rw [List.getD_eq_getElem?_getD, List.getElem?_eq_getElem (by omega)]; exact List.getElem_mem _)
      rw [get j hj] at this
      exact (special_plain (pos j hj)).1 this
    · obtain ⟨j, h1, h2, h3, h4⟩ := mask_first _ hbs hm 64 (by omega)
      rw [hl] at h2
      refine .inr ⟨by omega, (j : Int), by omega, by omega, ?_, fun k h5 h6 => ?_, ?_⟩
      · have hlt : mask (nb L 8 i) < 18446744073709551616 := Nat.lt_of_le_of_lt Nat.and_le_right (by rw [hl]; decide)
        unfold tz64.f
        rw [if_pos ⟨by omega, by omega⟩, Int.toNat_natCast]
        unfold Lib.ctz
        first | rw [if_neg hm, h1] | rw [h1]
        congr 1
      · obtain ⟨m, rfl⟩ : ∃ m : Nat, k = (i : Int) + m := ⟨(k - i).toNat, by omega⟩
        have := h4 m (by omega)
        rw [get m (by omega)] at this
        exact (special_plain (pos m (by omega))).1 this
      · rw [get j h2] at h3
        exact (special_plain (pos j h2)).2 h3
theorem plain_run {q : ByteArray → ByteArray} {L : List Int} {b : Int} (hT : Txt L) (hb : b < L.length) (st : List Br) : ∀ n : Nat, ∀ a : Int, 0 ≤ a → a ≤ b → (∀ k, a ≤ k → k < b → Plain (rd L k)) → b - a = n → out q L .text st a = out q L .text st b := by
  intro n
  induction n with
  | zero => intro a h0 h1 h2 h3; rw [show a = b by omega]
  | succ n ih =>
    intro a h0 h1 h2 h3
    have hp := h2 a (Int.le_refl _) (by omega)
    unfold Plain at hp
    rw [(txt_other (q := q) (st := st) hT h0 (by omega) (by omega) (by omega) (by omega)).1]
    exact ih (a + 1) (by omega) (by omega) (fun k h4 h5 => h2 k (by omega) h5) (by omega)
theorem plain_out {q : ByteArray → ByteArray} {L : List Int} {a b : Int} (hT : Txt L) (hb : b < L.length) (h0 : 0 ≤ a) (h1 : a ≤ b) (h : ∀ k, a ≤ k → k < b → Plain (rd L k)) (st : List Br) : out q L .text st a = out q L .text st b :=
  plain_run hT hb st (b - a).toNat a h0 h1 h (by omega)
end Go.Proofs.YtfkagnpdapkaaaaDoor.Err
/- Bytes of 128 and more, gathered as the top bits of a word; and what the scanner tells of escapes, whatever is open. -/
namespace Go.Proofs.YtfkagnpdapkaaaaDoor.Err
open Go.RowKit Go.Proofs.YtfkagnpdapkaaaaDoor.QF Go.Proofs.YtfkagnpdapkaaaaDoorW.PrintWords Go.Proofs.YtfkagnpdapkaaaaDoorW.PrintLast Go.Proofs.YtfkagnpdapkaaaaDoorW.PrintMore Go.Proofs.YtfkagnpdapkaaaaDoor.Swar Go.Proofs.YtfkagnpdapkaaaaDoor.Dig Go.Proofs.YtfkagnpdapkaaaaDoor.Tab Go.Proofs.YtfkagnpdapkaaaaDoor.Key
set_option linter.unusedVariables false
/-- Has a number a top bit in one of its eight bytes? -/
def hiN (n : Nat) : Prop := n &&& 9259542123273814144 ≠ 0
theorem hw_ne : ∀ l : List Nat, hw l ≠ 0 ↔ ∃ b, b ∈ l ∧ b ≠ 0
  | [] => ⟨fun h => absurd rfl h, fun ⟨b, h, _⟩ => by cases h⟩
  | b :: r => by
    have ih := hw_ne r
    rw [show hw (b :: r) = b + 256 * hw r from rfl]
    constructor
    · intro h
      by_cases hb : b = 0
      · obtain ⟨x, hx, hx0⟩ := ih.1 (by omega)
        exact ⟨x, List.mem_cons_of_mem _ hx, hx0⟩
      · exact ⟨b, List.mem_cons_self .., hb⟩
    · rintro ⟨x, hx, hx0⟩
      rcases List.mem_cons.1 hx with rfl | hx
      · omega
      · have := ih.2 ⟨x, hx, hx0⟩
        omega
theorem and128 : ∀ b : Fin 256, (b.1 &&& 128 ≠ 0) ↔ 128 ≤ b.1 := by decide +kernel
theorem hiN_hw (l : List Nat) (hl : l.length = 8) (h : Bs l) : hiN (hw l) ↔ ∃ b, b ∈ l ∧ 128 ≤ b := by
  unfold hiN
  rw [show (9259542123273814144 : Nat) = hw (List.replicate 8 128) from rfl, ← hl, hw_and l 128 h (by decide), hw_ne]
  constructor
  · rintro ⟨x, hx, hx0⟩
    obtain ⟨b, hb, rfl⟩ := List.mem_map.1 hx
    exact ⟨b, hb, (and128 ⟨b, h b hb⟩).1 hx0⟩
  · rintro ⟨b, hb, hx0⟩
    exact ⟨_, List.mem_map.2 ⟨b, hb, rfl⟩, (and128 ⟨b, h b hb⟩).2 hx0⟩
theorem hiN_or (a b : Nat) : hiN (a ||| b) ↔ hiN a ∨ hiN b := by
  unfold hiN
  rw [Nat.and_or_distrib_right]
  generalize a &&& 9259542123273814144 = x
  generalize b &&& 9259542123273814144 = y
  constructor
  · intro h
    by_cases hx : x = 0
    · subst hx
      right
      simpa using h
    · exact .inl hx
  · rintro h e
    have hx : x = 0 := Nat.eq_of_testBit_eq fun i => by
      have := congrArg (fun n => n.testBit i) e
      simp only [Nat.testBit_or, Nat.zero_testBit, Bool.or_eq_false_iff] at this
      rw [this.1, Nat.zero_testBit]
    have hy : y = 0 := Nat.eq_of_testBit_eq fun i => by
      have := congrArg (fun n => n.testBit i) e
      simp only [Nat.testBit_or, Nat.zero_testBit, Bool.or_eq_false_iff] at this
      rw [this.2, Nat.zero_testBit]
    rcases h with h | h
    · exact h hx
    · exact h hy
theorem hiN_and (n : Nat) : hiN (n &&& 9259542123273814144) ↔ hiN n := by
  unfold hiN
  rw [Nat.and_assoc, Nat.and_self]
theorem hiN_part (n m : Nat) : hiN ((n &&& 9259542123273814144) &&& m) ↔ hiN (n &&& m) := by
  unfold hiN
  rw [Nat.and_assoc, Nat.and_comm m, ← Nat.and_assoc, Nat.and_assoc n, Nat.and_self, Nat.and_assoc, Nat.and_comm 9259542123273814144 m, ← Nat.and_assoc]
theorem hw_zeros (n : Nat) : hw (List.replicate n 0) = 0 := by
  induction n with
  | zero => rfl
  | succ n ih => rw [List.replicate_succ, show hw (0 :: List.replicate n 0) = 0 + 256 * hw (List.replicate n 0) from rfl, ih]
theorem hw_mod (l : List Nat) (h : Bs l) (j : Nat) (hj : j ≤ l.length) : hw l % 256 ^ j = hw (l.take j ++ List.replicate (l.length - j) 0) := by
  have hb : Bs (l.take j) := fun x hx => h x (List.mem_of_mem_take hx)
  have hlt := hw_lt _ hb
  have hlen : (l.take j).length = j := by rw [List.length_take]; omega
  rw [hw_append, hw_zeros, Nat.mul_zero, Nat.add_zero]
  have e : hw l = hw (l.take j) + 256 ^ j * hw (l.drop j) := by
    have := hw_append (l.take j) (l.drop j)
    rw [List.take_append_drop, hlen] at this
    exact this
  rw [e, Nat.add_mul_mod_self_left, Nat.mod_eq_of_lt (by rwa [hlen] at hlt)]
/-- A word whose top bits tell whether P. -/
structure Hi (h : Int) (P : Prop) : Prop where
  low : 0 ≤ h
  high : h < 18446744073709551616
  on : hiN h.toNat ↔ P
theorem Hi.iff {h : Int} {P Q : Prop} (hh : Hi h P) (hpq : P ↔ Q) : Hi h Q := ⟨hh.low, hh.high, hh.on.trans hpq⟩
theorem Hi.test {h : Int} {P : Prop} (hh : Hi h P) : (Go.bits .and .u64 h 9259542123273814144 != 0) = true ↔ P := by
  obtain ⟨n, rfl⟩ := Int.eq_ofNat_of_zero_le hh.low
  have hn := hh.high
  have ho := hh.on
  rw [Int.toNat_natCast] at ho
  rw [show (9259542123273814144 : Int) = ((9259542123273814144 : Nat) : Int) from rfl, Swar.bits_and n _ (by omega) (by decide), ← ho, bne_iff_ne]
  unfold hiN
  generalize n &&& 9259542123273814144 = x
  omega
theorem Hi.zero : Hi 0 False := ⟨by decide, by decide, by
  unfold hiN
  simp⟩
theorem Hi.or {h x : Int} {P Q : Prop} (hh : Hi h P) (hx : Hi x Q) : Hi (Go.bits .or .u64 h x) (P ∨ Q) := by
  obtain ⟨n, rfl⟩ := Int.eq_ofNat_of_zero_le hh.low
  obtain ⟨m, rfl⟩ := Int.eq_ofNat_of_zero_le hx.low
  have h1 := hh.high
  have h2 := hx.high
  have h3 := hh.on
  have h4 := hx.on
  rw [Int.toNat_natCast] at h3 h4
  rw [Swar.bits_or n m (by omega) (by omega)]
  have : n ||| m < 2 ^ 64 := Nat.or_lt_two_pow (by omega) (by omega)
  refine ⟨by omega, by omega, ?_⟩
  rw [Int.toNat_natCast, hiN_or, h3, h4]
theorem Hi.byte {b : Int} (h0 : 0 ≤ b) (h1 : b < 256) : Hi b (128 ≤ b) := by
  obtain ⟨n, rfl⟩ := Int.eq_ofNat_of_zero_le h0
  refine ⟨h0, by omega, ?_⟩
  rw [Int.toNat_natCast]
  have e : n = hw [n, 0, 0, 0, 0, 0, 0, 0] := by simp [hw]
  rw [e, hiN_hw _ rfl (by intro x hx; simp at hx; omega)]
  simp [hw]
  omega
theorem nb_mem {L : List Int} (hT : Txt L) (i j : Nat) (hj : j ≤ 8) (h8 : (i : Int) + 8 ≤ L.length) : (∃ b, b ∈ (nb L 8 i).take j ∧ 128 ≤ b) ↔ ∃ k : Int, (i : Int) ≤ k ∧ k < i + j ∧ 128 ≤ rd L k := by
  have hl := nb_length L 8 i
  have get : ∀ m, m < 8 → (nb L 8 i).getD m 0 = (rd L ((i : Int) + m)).toNat := fun m hm => by
    rw [nb_get L 8 i m hm, show (((i + m : Nat)) : Int) = (i : Int) + m by omega]
  constructor
  · rintro ⟨b, hb, h1⟩
    obtain ⟨m, hm, rfl⟩ := List.mem_iff_getElem.1 hb
    rw [List.length_take] at hm
    refine ⟨(i : Int) + m, by omega, by omega, ?_⟩
    have := get m (by omega)
    rw [List.getD_eq_getElem?_getD, List.getElem?_eq_getElem (by omega)] at this
    rw [List.getElem_take] at h1
    have hp := (hT.bytes ((i : Int) + m) (by omega) (by omega)).1
    simp only [Option.getD_some] at this
    omega
  · rintro ⟨k, h1, h2, h3⟩
    obtain ⟨m, rfl⟩ : ∃ m : Nat, k = (i : Int) + m := ⟨(k - i).toNat, by omega⟩
    have hm : m < ((nb L 8 i).take j).length := by rw [List.length_take]; omega
    refine ⟨((nb L 8 i).take j)[m], List.getElem_mem _, ?_⟩
    rw [List.getElem_take]
    have := get m (by omega)
    rw [List.getD_eq_getElem?_getD, List.getElem?_eq_getElem (by omega)] at this
    simp only [Option.getD_some] at this
    omega
theorem word_val {L : List Int} (hT : Txt L) {c W : Int} (h0 : 0 ≤ c) (h8 : c + 8 ≤ L.length) (hW : gojson_load64.f L c = some W) : W = ((hw (nb L 8 c.toNat) : Nat) : Int) := by
  obtain ⟨i, rfl⟩ := Int.eq_ofNat_of_zero_le h0
  unfold gojson_load64.f at hW
  rw [if_pos h0, if_pos (by omega), Int.toNat_natCast, le64_f L hT.list i (by omega)] at hW
  rw [Int.toNat_natCast]
  exact (Option.some.inj hW).symm
theorem Hi.part {L : List Int} (hT : Txt L) {c W : Int} (j : Nat) (hj : j ≤ 8) (h0 : 0 ≤ c) (h8 : c + 8 ≤ L.length) (hW : gojson_load64.f L c = some W) :
    Hi (Go.bits .and .u64 (Go.bits .and .u64 W 9259542123273814144) ((256 ^ j - 1 : Nat) : Int)) (∃ k, c ≤ k ∧ k < c + j ∧ 128 ≤ rd L k) := by
  rw [word_val hT h0 h8 hW]
  obtain ⟨i, rfl⟩ := Int.eq_ofNat_of_zero_le h0
  rw [Int.toNat_natCast]
  have hl := nb_length L 8 i
  have hbs := nb_bs L hT.list 8 i
  have hlt : hw (nb L 8 i) < 18446744073709551616 := by have := hw_lt _ hbs; rw [hl] at this; exact this
  have hp : (256 : Nat) ^ j - 1 < 18446744073709551616 := by
    have : (256 : Nat) ^ j ≤ 256 ^ 8 := Nat.pow_le_pow_right (by decide) hj
    have e : (256 : Nat) ^ 8 = 18446744073709551616 := rfl
    have : 0 < (256 : Nat) ^ j := Nat.pow_pos (by decide)
    omega
  have hlt2 : hw (nb L 8 i) &&& 9259542123273814144 < 18446744073709551616 := Nat.lt_of_le_of_lt Nat.and_le_left hlt
  rw [show (9259542123273814144 : Int) = ((9259542123273814144 : Nat) : Int) from rfl, Swar.bits_and _ _ hlt (by decide), Swar.bits_and _ _ hlt2 hp]
  have hlt3 : (hw (nb L 8 i) &&& 9259542123273814144) &&& (256 ^ j - 1) < 18446744073709551616 := Nat.lt_of_le_of_lt Nat.and_le_left hlt2
  refine ⟨by omega, by omega, ?_⟩
  rw [Int.toNat_natCast, hiN_part, show (256 : Nat) ^ j = 2 ^ (8 * j) by rw [show (256 : Nat) = 2 ^ 8 from rfl, ← Nat.pow_mul], Nat.and_two_pow_sub_one_eq_mod, show (2 : Nat) ^ (8 * j) = 256 ^ j by rw [show (256 : Nat) = 2 ^ 8 from rfl, ← Nat.pow_mul],
    hw_mod _ hbs j (by omega), hiN_hw]
  · rw [← nb_mem hT i j hj h8]
    constructor
    · rintro ⟨b, hb, h1⟩
      rcases List.mem_append.1 hb with hb | hb
      · exact ⟨b, hb, h1⟩
      · rw [List.mem_replicate] at hb
        omega
    · rintro ⟨b, hb, h1⟩
      exact ⟨b, List.mem_append.2 (.inl hb), h1⟩
  · rw [List.length_append, List.length_take, List.length_replicate]; omega
  · intro x hx
    rcases List.mem_append.1 hx with hx | hx
    · exact hbs x (List.mem_of_mem_take hx)
    · rw [List.mem_replicate] at hx; omega
theorem Hi.word {L : List Int} (hT : Txt L) {c W : Int} (h0 : 0 ≤ c) (h8 : c + 8 ≤ L.length) (hW : gojson_load64.f L c = some W) :
    Hi (Go.bits .and .u64 W 9259542123273814144) (∃ k, c ≤ k ∧ k < c + 8 ∧ 128 ≤ rd L k) := by
  rw [word_val hT h0 h8 hW]
  obtain ⟨i, rfl⟩ := Int.eq_ofNat_of_zero_le h0
  rw [Int.toNat_natCast]
  have hl := nb_length L 8 i
  have hbs := nb_bs L hT.list 8 i
  have hlt : hw (nb L 8 i) < 18446744073709551616 := by have := hw_lt _ hbs; rw [hl] at this; exact this
  have hlt2 : hw (nb L 8 i) &&& 9259542123273814144 < 18446744073709551616 := Nat.lt_of_le_of_lt Nat.and_le_left hlt
  rw [show (9259542123273814144 : Int) = ((9259542123273814144 : Nat) : Int) from rfl, Swar.bits_and _ _ hlt (by decide)]
  refine ⟨by omega, by omega, ?_⟩
  rw [Int.toNat_natCast, hiN_and, hiN_hw _ hl hbs]
  have := nb_mem hT i 8 (by omega) h8
  rw [List.take_of_length_le (by omega)] at this
  exact this
/-- The place of the first backslash from a on, ahead of b, told from a; -1 for none. -/
def FirstEsc (L : List Int) (a b fe : Int) : Prop := (fe = -1 ∧ ∀ k, a ≤ k → k < b → rd L k ≠ 92) ∨ ∃ k, a ≤ k ∧ k < b ∧ fe = k - a ∧ rd L k = 92 ∧ ∀ j, a ≤ j → j < k → rd L j ≠ 92
theorem FirstEsc.start (L : List Int) (a : Int) : FirstEsc L a a (-1) := .inl ⟨rfl, fun k h1 h2 => by omega⟩
theorem FirstEsc.more {L : List Int} {a b b' fe : Int} (h : FirstEsc L a b fe) (hb : b ≤ b') (hn : ∀ k, b ≤ k → k < b' → rd L k ≠ 92) : FirstEsc L a b' fe := by
  rcases h with ⟨h1, h2⟩ | ⟨k, h1, h2, h3, h4, h5⟩
  · exact .inl ⟨h1, fun k hk hk2 => if hkb : k < b then h2 k hk hkb else hn k (by omega) hk2⟩
  · exact .inr ⟨k, h1, by omega, h3, h4, h5⟩
theorem FirstEsc.old {L : List Int} {a b b' fe : Int} (h : FirstEsc L a b fe) (hf : 0 ≤ fe) (hb : b ≤ b') : FirstEsc L a b' fe := by
  rcases h with ⟨h1, h2⟩ | ⟨k, h1, h2, h3, h4, h5⟩
  · omega
  · exact .inr ⟨k, h1, by omega, h3, h4, h5⟩
theorem FirstEsc.new {L : List Int} {a b b' fe : Int} (h : FirstEsc L a b fe) (hf : fe < 0) (hab : a ≤ b) (hb : b < b') (hc : rd L b = 92) : FirstEsc L a b' (b - a) := by
  rcases h with ⟨h1, h2⟩ | ⟨k, h1, h2, h3, h4, h5⟩
  · exact .inr ⟨b, hab, hb, rfl, hc, h2⟩
  · omega
section
variable {q : ByteArray → ByteArray} {L : List Int} {x : Int}
/-- Four digits that do not all fit ahead of the end. -/
theorem dig_short (hT : Txt L) : ∀ n k : Nat, k + n = 4 → ∀ x : Int, 0 ≤ x → x < L.length → (L.length : Int) ≤ x + n → ∃ s, Bad q L (.dig k) x s := by
  intro n
  induction n with
  | zero => intro k hk x h0 h1 h2; omega
  | succ n ih =>
    intro k hk x h0 h1 h2
    by_cases ch : isHex (rd L x)
    · have hin := hT.inside h0 h1 (by unfold isHex isDig at ch; omega)
      by_cases hn : n = 0
      · subst hn; omega
      obtain ⟨s, hs⟩ := ih (k + 1) (by omega) (x + 1) (by omega) (by omega) (by omega)
      refine ⟨s, fun st => ?_⟩
      rw [(dig_ok (q := q) (st := st) (k := k) hT h0 h1 ch).1, if_neg (by omega)]
      exact hs st
    · exact ⟨_, fun st => dig_bad hT h0 h1 ch⟩
end
end Go.Proofs.YtfkagnpdapkaaaaDoor.Err
