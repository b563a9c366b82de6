/- The first fault of bytes and what the package tells of a whole input, in plain Lean. -/
import Derived.Test.YtfkagnpdapkaaaaDoorScT
import Derived.Test.YtfkagnpdapkaaaaDoorScC
namespace Go.Proofs.YtfkagnpdapkaaaaDoor.Err
open Go.RowKit Go.Proofs.YtfkagnpdapkaaaaDoorW.PrintWords Go.Proofs.YtfkagnpdapkaaaaDoorW.PrintLast Go.Proofs.YtfkagnpdapkaaaaDoorW.PrintMore
open Go.Proofs.YtfkagnpdapkaaaaDoor.Dig
set_option linter.unusedVariables false
section
variable {q : ByteArray → ByteArray}
theorem cat_left {a b c : ByteArray} (h : a ++ b = a ++ c) : b = c := by
  have h2 := congrArg ByteArray.data h
  simp only [ByteArray.data_append] at h2
  have h3 : a.data.toList ++ b.data.toList = a.data.toList ++ c.data.toList := by rw [← Array.toList_append, ← Array.toList_append, h2]
  exact ByteArray.ext (Array.toList_inj.1 (List.append_cancel_left h3))
theorem bad_ne {c : Int} {x : ByteArray} (h : x ≠ wValue) : badWords q c x ≠ badWords q c wValue := fun e => h (cat_left e)
theorem lit_ne (l : List Int) (k : Nat) : litWhat q l k ≠ wValue := fun e => by
  have h := congrArg (fun b : ByteArray => b.data[0]?) e
  unfold litWhat at h
  simp [ByteArray.data_append] at h
  rw [Array.getElem?_append_left (by decide)] at h
  exact absurd h (by decide)
/-- A step's fault: a byte that begins no value, or another one. -/
def EF (q : ByteArray → ByteArray) (c : Int) (m : ByteArray × Bool) : Prop := m = (badWords q c wValue, true) ∨ ∃ x, m = (badWords q c x, false) ∧ x ≠ wValue
theorem ef_of {c : Int} {x : ByteArray} {m : ByteArray × Bool} (hx : x ≠ wValue) (h : (Except.error (badWords q c x, false) : Step) = .error m) : EF q c m := by
  cases h
  exact .inr ⟨x, rfl, hx⟩
theorem ef_begin {c : Int} {st : List Br} {m : ByteArray × Bool} (h : begin_ q c st = .error m) : EF q c m := by
  unfold begin_ at h
  repeat' split at h
  all_goals first
    | cases h; done
    | (cases h; exact .inl rfl)
theorem ef_name {c : Int} {st : List Br} {m : ByteArray × Bool} (h : nameOf q c st = .error m) : EF q c m := by
  unfold nameOf at h
  split at h
  · cases h
  · exact ef_of (by decide) h
theorem ef_between {c : Int} {ph : Ph} {st : List Br} {m : ByteArray × Bool} (h : between q c ph st = .error m) : EF q c m := by
  unfold between at h
  split at h
  · cases h
  cases ph <;> simp only at h
  case val => exact ef_begin h
  case item0 =>
    split at h
    · cases h
    · exact ef_begin h
  case name0 =>
    split at h
    · cases h
    · exact ef_name h
  case name => exact ef_name h
  all_goals
    repeat' split at h
    all_goals first
      | cases h; done
      | exact ef_of (by decide) h
theorem ef_more {c : Int} {ph : Ph} {st : List Br} {x y z : Bool} {m : ByteArray × Bool} (h : numMore q c ph st x y z = .error m) : EF q c m := by
  unfold numMore at h
  repeat' split at h
  all_goals first
    | cases h; done
    | exact ef_between h
theorem ef_step {c : Int} {ph : Ph} {st : List Br} {m : ByteArray × Bool} (h : step q c ph st = .error m) : EF q c m := by
  cases ph
  case text => rw [step_text] at h; repeat' split at h
               all_goals first | cases h; done | exact ef_of (by decide) h
  case esc => rw [step_esc] at h; repeat' split at h
              all_goals first | cases h; done | exact ef_of (by decide) h
  case dig k => rw [step_dig] at h; repeat' split at h
                all_goals first | cases h; done | exact ef_of (by decide) h
  case minus => rw [step_minus] at h; repeat' split at h
                all_goals first | cases h; done | exact ef_of (by decide) h
  case point => rw [step_point] at h; repeat' split at h
                all_goals first | cases h; done | exact ef_of (by decide) h
  case e => rw [step_e] at h; repeat' split at h
            all_goals first | cases h; done | exact ef_of (by decide) h
  case sign => rw [step_sign] at h; repeat' split at h
               all_goals first | cases h; done | exact ef_of (by decide) h
  case word l k => rw [step_word] at h; repeat' split at h
                   all_goals first | cases h; done | exact ef_of (lit_ne l k) h
  case zero => exact ef_more h
  case whole => exact ef_more h
  case frac => exact ef_more h
  case exp => exact ef_more h
  all_goals exact ef_between h
/-- Where a step ends a value, nothing is open. -/
theorem all_closed {st : List Br} (h : isAll (closed st).1 = true) : closed st = (.all, []) := by
  match st, h with
  | [], _ => rfl
  | .obj :: r, h => cases h
  | .arr :: r, h => cases h
  | .key :: r, h => cases h
theorem ok_all {s t : Ph × List Br} (h : (Except.ok t : Step) = .ok s) (ht : isAll t.1 = true → t = (.all, [])) (ha : isAll s.1 = true) : s = (.all, []) := by
  cases h
  exact ht ha
theorem all_begin {c : Int} {st : List Br} {s : Ph × List Br} (h : begin_ q c st = .ok s) : isAll s.1 = false := by
  unfold begin_ at h
  repeat' split at h
  all_goals first
    | (cases h; rfl)
    | cases h
theorem all_name {c : Int} {st : List Br} {s : Ph × List Br} (h : nameOf q c st = .ok s) : isAll s.1 = false := by
  unfold nameOf at h
  split at h
  · cases h; rfl
  · cases h
theorem all_between {c : Int} {ph : Ph} {st : List Br} {s : Ph × List Br} (hp : isAll ph = true → st = []) (h : between q c ph st = .ok s) (ha : isAll s.1 = true) : s = (.all, []) := by
  unfold between at h
  split at h
  · refine ok_all h (fun h2 => ?_) ha
    rw [hp h2]
    cases ph <;> first | rfl | cases h2
  cases ph <;> simp only at h
  case val => rw [all_begin h] at ha; cases ha
  case item0 =>
    split at h
    · exact ok_all h all_closed ha
    · rw [all_begin h] at ha; cases ha
  case name0 =>
    split at h
    · exact ok_all h all_closed ha
    · rw [all_name h] at ha; cases ha
  case name => rw [all_name h] at ha; cases ha
  case colon =>
    split at h
    · cases h; cases ha
    · cases h
  case memb =>
    split at h
    · cases h; cases ha
    split at h
    · exact ok_all h all_closed ha
    · cases h
  case item =>
    split at h
    · cases h; cases ha
    split at h
    · exact ok_all h all_closed ha
    · cases h
  all_goals cases h
theorem all_step {c : Int} {ph : Ph} {st : List Br} {s : Ph × List Br} (hp : isAll ph = false) (h : step q c ph st = .ok s) (ha : isAll s.1 = true) : s = (.all, []) := by
  have hmore : ∀ x y z, numMore q c ph st x y z = .ok s → s = (.all, []) := fun x y z h => by
    unfold numMore at h
    split at h
    · cases h; rw [hp] at ha; cases ha
    split at h
    · cases h; cases ha
    split at h
    · cases h; cases ha
    · exact all_between (fun h2 => by rw [all_closed h2]) h ha
  cases ph
  case text =>
    rw [step_text] at h
    split at h
    · exact ok_all h all_closed ha
    repeat' split at h
    all_goals first
      | (cases h; cases ha; done)
      | cases h
  case dig k =>
    rw [step_dig] at h
    split at h
    · cases h
      revert ha
      show isAll (if k + 1 = 4 then .text else .dig (k + 1)) = true → _
      split <;> exact fun h => by cases h
    · cases h
  case word l k =>
    rw [step_word] at h
    split at h
    · by_cases hk : k + 1 = l.length
      · rw [if_pos hk] at h; exact ok_all h all_closed ha
      · rw [if_neg hk] at h; cases h; cases ha
    · cases h
  case zero => exact hmore _ _ _ h
  case whole => exact hmore _ _ _ h
  case frac => exact hmore _ _ _ h
  case exp => exact hmore _ _ _ h
  case esc => rw [step_esc] at h; repeat' split at h
              all_goals first | (cases h; cases ha; done) | cases h
  case minus => rw [step_minus] at h; repeat' split at h
                all_goals first | (cases h; cases ha; done) | cases h
  case point => rw [step_point] at h; repeat' split at h
                all_goals first | (cases h; cases ha; done) | cases h
  case e => rw [step_e] at h; repeat' split at h
            all_goals first | (cases h; cases ha; done) | cases h
  case sign => rw [step_sign] at h; repeat' split at h
               all_goals first | (cases h; cases ha; done) | cases h
  case all => cases hp
  all_goals exact all_between (fun h2 => by cases h2) h ha
/-- Where a number may end, a byte that does not go on with it is met as behind a value. -/
theorem step_ender {c : Int} {ph : Ph} {st : List Br} (he : ender ph st = true) : st = [] ∧ (step q c ph st = step q c .all [] ∨ ∃ s, step q c ph st = .ok s ∧ isAll s.1 = false) := by
  unfold ender at he
  rw [Bool.and_eq_true] at he
  have hst : st = [] := by simpa using he.2
  refine ⟨hst, ?_⟩
  subst hst
  have hmore : ∀ x y z, isAll ph = false → (numMore q c ph [] x y z = between q c .all [] ∨ ∃ s, numMore q c ph [] x y z = .ok s ∧ isAll s.1 = false) := fun x y z hp => by
    unfold numMore
    split
    · exact .inr ⟨_, rfl, hp⟩
    split
    · exact .inr ⟨_, rfl, rfl⟩
    split
    · exact .inr ⟨_, rfl, rfl⟩
    · exact .inl rfl
  cases ph
  case zero => exact hmore _ _ _ rfl
  case whole => exact hmore _ _ _ rfl
  case frac => exact hmore _ _ _ rfl
  case exp => exact hmore _ _ _ rfl
  all_goals exact absurd he.1 (by simp [numFinal])
/-- What a fault of the package says of the first fault of bytes. -/
def FaultIs (q : ByteArray → ByteArray) (l : List Int) (k : Nat) (e : Bool) (m : ByteArray) (s : SE) : Prop :=
  k ≤ l.length ∧ s.msg = m ∧ s.atEnd = e ∧ s.off = (if e = true then (k : Int) else (k : Int) + 1) ∧ (e = true → s.va = 0 ∧ k = l.length) ∧
    (e = false → k < l.length ∧ ((s.va = 0 ∧ m ≠ badWords q (rd l k) wValue) ∨ (s.va = (k : Int) + 1 ∧ m = badWords q (rd l k) wValue)))
/-- The outcome of a value, and the first fault of the bytes from there on. -/
theorem out_ff (l : List Int) : ∀ n : Nat, ∀ i : Nat, ∀ ph st, l.length - i = n → i ≤ l.length → isAll ph = false →
    (∃ d : Nat, out q (l ++ [0]) ph st i = .done d ∧ i ≤ d ∧ d ≤ l.length ∧ ff q (l.drop i) ph st i = ff q (l.drop d) .all [] d) ∨
    (∃ (s : SE) (k : Nat) (e : Bool) (m : ByteArray), out q (l ++ [0]) ph st i = .fault s ∧ ff q (l.drop i) ph st i = some ((k : Int), e, m) ∧ FaultIs q l k e m s) := by
  intro n
  induction n with
  | zero =>
    intro i ph st hn hi ha
    have hil : i = l.length := by omega
    have hlen : (l ++ [(0 : Int)]).length = l.length + 1 := by rw [List.length_append]; rfl
    rw [out_end q (l ++ [0]) ph st (i : Int) (by rw [hlen]; omega) (by omega)]
    have hf := ff_end q l ph st i hil
    by_cases he : ender ph st = true
    · refine .inl ⟨i, by rw [if_pos he], Nat.le_refl _, hi, ?_⟩
      have hf2 := ff_end q l .all [] i hil
      rw [hf, hf2, if_pos (by unfold wholeB; rw [he]; simp), if_pos (show wholeB .all [] = true from rfl)]
    · rw [if_neg he]
      rw [if_neg (by unfold wholeB; rw [ha]; simpa using he)] at hf
      unfold endF
      cases hs : step q 32 ph st with
      | error m =>
        rw [hs] at hf
        exact .inr ⟨_, i, true, m.1, rfl, hf, hi, rfl, rfl, rfl, fun _ => ⟨rfl, hil⟩, fun h => by cases h⟩
      | ok s =>
        rw [hs] at hf
        exact .inr ⟨_, i, true, endWords, rfl, hf, hi, rfl, rfl, rfl, fun _ => ⟨rfl, hil⟩, fun h => by cases h⟩
  | succ n ih =>
    intro i ph st hn hi ha
    have hlt : i < l.length := by omega
    have hlen : (l ++ [(0 : Int)]).length = l.length + 1 := by rw [List.length_append]; rfl
    rw [out_at q (l ++ [0]) ph st (i : Int) (by omega) (by omega), rd_out l i hlt]
    have hf := ff_at q l ph st i hlt
    cases hs : step q (rd l i) ph st with
    | error m =>
      rw [hs] at hf
      dsimp only at hf ⊢
      by_cases he : ender ph st = true
      · refine .inl ⟨i, by rw [if_pos he], Nat.le_refl _, hi, ?_⟩
        have hf2 := ff_at q l .all [] i hlt
        obtain ⟨rfl, h2 | ⟨s, h2, _⟩⟩ := step_ender (q := q) (c := rd l i) he
        · rw [← h2, hs] at hf2
          rw [hf, hf2]
        · rw [hs] at h2; cases h2
      · rw [if_neg he]
        refine .inr ⟨_, i, false, m.1, rfl, hf, hi, rfl, rfl, rfl, (fun h => by cases h), fun _ => ⟨hlt, ?_⟩⟩
        rcases ef_step hs with rfl | ⟨x, rfl, hx⟩
        · exact .inr ⟨rfl, rfl⟩
        · exact .inl ⟨rfl, bad_ne hx⟩
    | ok s =>
      rw [hs] at hf
      dsimp only at hf ⊢
      by_cases hal : isAll s.1 = true
      · rw [if_pos hal]
        have hse := all_step ha hs hal
        by_cases he : ender ph st = true
        · refine .inl ⟨i, by rw [if_pos he], Nat.le_refl _, hi, ?_⟩
          have hf2 := ff_at q l .all [] i hlt
          obtain ⟨rfl, h2 | ⟨s', h2, h3⟩⟩ := step_ender (q := q) (c := rd l i) he
          · rw [← h2, hs] at hf2
            rw [hf, hf2]
          · rw [hs] at h2
            cases h2
            rw [hal] at h3
            cases h3
        · refine .inl ⟨i + 1, by rw [if_neg he]; rfl, Nat.le_succ _, hlt, ?_⟩
          rw [hf, hse]
      · rw [if_neg hal]
        rcases ih (i + 1) s.1 s.2 (by omega) hlt (by simpa using hal) with ⟨d, h1, h2, h3, h4⟩ | ⟨s', k, e, m, h1, h2, h3⟩
        · exact .inl ⟨d, h1, by omega, h3, by rw [hf, h4]⟩
        · exact .inr ⟨s', k, e, m, h1, by rw [hf, h2], h3⟩
/-- Behind a value. -/
theorem all_ff (l : List Int) (j : Nat) : ∀ n : Nat, ∀ d : Nat, j - d = n → RunTo isBlank (l ++ [0]) d j → ff q (l.drop d) .all [] d = if j = l.length then none else some ((j : Int), false, badWords q (rd l j) wAfterTop) := by
  have hlen : (l ++ [(0 : Int)]).length = l.length + 1 := by rw [List.length_append]; rfl
  intro n
  induction n with
  | zero =>
    intro d hn hr
    have hd : d = j := by have := hr.le; omega
    subst hd
    have hlt := hr.lt
    by_cases h : d = l.length
    · rw [if_pos h, ff_end q l .all [] d h, if_pos (show wholeB .all [] = true from rfl)]
    · rw [if_neg h, ff_at q l .all [] d (by omega)]
      have hb : ¬ isBlank (rd l d) := by have := hr.stop; rw [rd_out l d (by omega)] at this; exact this
      have e : step q (rd l d) .all [] = .error (badWords q (rd l d) wAfterTop, false) := by
        show between q (rd l d) .all [] = _
        unfold between
        rw [if_neg hb]
      rw [e]
  | succ n ih =>
    intro d hn hr
    have hlt := hr.lt
    have hb : isBlank (rd l d) := by have := hr.all d (Int.le_refl _) (by omega); rw [rd_out l d (by omega)] at this; exact this
    rw [ff_at q l .all [] d (by omega)]
    have e : step q (rd l d) .all [] = .ok (.all, []) := by
      show between q (rd l d) .all [] = _
      unfold between
      rw [if_pos hb]
    rw [e]
    exact ih (d + 1) (by omega) ⟨by omega, hr.lt, fun k h1 h2 => hr.all k (by omega) h2, hr.stop⟩
/-- What the package tells of a whole input. -/
def InsR (q : ByteArray → ByteArray) (L : List Int) (r : Option SE) : Prop :=
  ∃ x : Int, RunTo isBlank L 0 x ∧ ((∃ s, out q L .val [] x = .fault s ∧ r = some s) ∨
    ∃ d j : Int, out q L .val [] x = .done d ∧ 0 ≤ d ∧ RunTo isBlank L d j ∧ r = if j = (L.length : Int) - 1 then none else some (faultAt q L j 5))
theorem ins_ff {l : List Int} {r : Option SE} (hT : Txt (l ++ [0])) (h : InsR q (l ++ [0]) r) :
    (ff q l .val [] 0 = none ∧ r = none) ∨ ∃ (k : Nat) (e : Bool) (m : ByteArray) (s : SE), ff q l .val [] 0 = some ((k : Int), e, m) ∧ r = some s ∧ FaultIs q l k e m s := by
  have hlen : (l ++ [(0 : Int)]).length = l.length + 1 := by rw [List.length_append]; rfl
  obtain ⟨x, hr, h⟩ := h
  have hws := ws_out (q := q) hT (ph := .val) rfl (Int.le_refl 0) hr []
  have hff := out_ff (q := q) l (l.length - 0) 0 .val [] rfl (Nat.zero_le _) rfl
  rw [show ((0 : Nat) : Int) = 0 from rfl, hws, List.drop_zero] at hff
  rcases h with ⟨s, ho, rfl⟩ | ⟨d, j, ho, hd0, hrun, rfl⟩
  · rcases hff with ⟨d, h1, _⟩ | ⟨s', k, e, m, h1, h2, h3⟩
    · rw [ho] at h1; cases h1
    · rw [ho] at h1
      cases h1
      exact .inr ⟨k, e, m, s, h2, rfl, h3⟩
  · rcases hff with ⟨d', h1, h2, h3, h4⟩ | ⟨s', k, e, m, h1, _⟩
    · rw [ho] at h1
      cases h1
      obtain ⟨j, rfl⟩ := Int.eq_ofNat_of_zero_le (show 0 ≤ j by have := hrun.le; omega)
      have hall := all_ff (q := q) l j (j - d') d' rfl hrun
      have hlt := hrun.lt
      rw [h4, hall]
      by_cases hj : j = l.length
      · refine .inl ⟨by rw [if_pos hj], by rw [if_pos (by rw [hlen]; omega)]⟩
      · refine .inr ⟨j, false, _, _, by rw [if_neg hj], by rw [if_neg (by rw [hlen]; omega)], by omega, ?_⟩
        have e : faultAt q (l ++ [0]) (j : Int) 5 = ⟨badWords q (rd l j) wAfterTop, (j : Int) + 1, false, 0⟩ := by
          unfold faultAt
          rw [if_neg (by rw [hlen]; omega), rd_out l j (by omega)]
          rfl
        rw [e]
        exact ⟨rfl, rfl, rfl, (fun h => by cases h), fun _ => ⟨by omega, .inl ⟨rfl, bad_ne (x := wAfterTop) (by decide)⟩⟩⟩
    · rw [ho] at h1; cases h1
end
end Go.Proofs.YtfkagnpdapkaaaaDoor.Err
