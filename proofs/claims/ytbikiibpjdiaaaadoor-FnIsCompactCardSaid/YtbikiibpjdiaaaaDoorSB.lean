/- The reference's scanner: a byte in a number, or behind it; a byte in a text. -/
import Derived.Test.YtbikiibpjdiaaaaDoorSA
import Derived.Deep.RegionWith
namespace Go.Proofs.YtbikiibpjdiaaaaDoor.Err
open Go.RowKit Go.Proofs.YtbikiibpjdiaaaaDoorW.PrintWords Go.Proofs.YtbikiibpjdiaaaaDoorW.PrintLast Go.Proofs.YtbikiibpjdiaaaaDoorW.PrintMore
open Go.Proofs.YtbikiibpjdiaaaaDoor.Dig Go.Proofs.YtbikiibpjdiaaaaDoor.Tab Go.Proofs.YtbikiibpjdiaaaaDoor.QL
set_option linter.unusedVariables false
theorem btw_closed (st : List Br) : btw (closed st).1 = true := by
 match st with
 | [] => rfl
 | .obj :: r => rfl
 | .arr :: r => rfl
 | .key :: r => rfl
theorem wf_closed (st : List Br) : WF (closed st).1 (closed st).2 := by
 match st with
 | [] => exact trivial
 | .obj :: r => exact List.cons_ne_nil _ _
 | .arr :: r => exact List.cons_ne_nil _ _
 | .key :: r => exact List.cons_ne_nil _ _
theorem len_closed (st : List Br) : (closed st).2.length = st.length := by
 match st with
 | [] => rfl
 | .obj :: r => rfl
 | .arr :: r => rfl
 | .key :: r => rfl
section
variable {q : ByteArray → ByteArray} {w0 w : World} {b : Nat} {a d lt : Int} {v : Value} {wd ft : ByteArray} {st : List Br}
/-- What stands behind a number. -/
theorem sBehindNum (A : Option Addr) (cc : Nat) (c : Int) (hG : G q w0) (hW : Below w0.heap.size w0 w) (hb0 : w0.heap.size ≤ b) (h : SCW w b a (.slice A st.length cc) d wd lt ft st) (h0 : 0 ≤ c) (h1 : c < 256) (hl : st.length ≤ 20000) :
  (∀ m : Nat, Calls Tryd.prog 60 #[.pointer (some ⟨b, 0, none⟩)] (w.drewN m) fun e w' => e = .returned (.tuple #[]) ∧ Below b w w' ∧ Calls Tryd.prog 43 #[.pointer (some ⟨b, 0, none⟩), .int .u8 c] w' (Went b w' (between q c (closed st).1 (closed st).2))) := by
 intro m
 refine (sClosed A cc (h.drewN m) hl).mono ?_
 rintro e w1 ⟨rfl, ⟨a2, A2, c2, d2, wd2, lt2, ft2, hI, hS⟩, hb1⟩
 have hb2 : Below b w w1 := (drewB m).trans hb1
 exact ⟨rfl, hb2, sBetween (closed st).1 A2 c2 c (btw_closed st) hI (wf_closed st) hG (hW.trans (hb2.mono hb0)) hb0 hS h0 h1 (by rw [len_closed]; exact hl)⟩
set_option maxRecDepth 100000 in
set_option maxHeartbeats 8000000 in
theorem sNum_minus (A : Option Addr) (cc : Nat) (c : Int) (hG : G q w0) (hW : Below w0.heap.size w0 w) (hb0 : w0.heap.size ≤ b) (h : SCW w b 11 (.slice A st.length cc) d wd lt ft st) (h0 : 0 ≤ c) (h1 : c < 256) (hl : st.length ≤ 20000) :
  Calls Tryd.prog 45 #[.pointer (some ⟨b, 0, none⟩), .int .u8 c] w (Went b w (step q c .minus st)) := by
 obtain ⟨k0, z1, z2, z3, z4, z5⟩ := h.cells
 have f0 := h.free 0
 have H := Aside0.mk h
 clear z1 z2 z3 z4 z5
 by_cases c48 : c = 48
 ·subst c48
  have HD : Aside0 (∀ W, Calls Tryd.prog 61 #[.int .u8 48] W fun e w' => e = .returned (.bool true) ∧ Drawn0 W w') := ⟨fun W => by have := sDigit 48 W; rw [decide_eq_true (by decide)] at this; exact this⟩
  have HE : Aside0 (step q 48 .minus st = .ok (.zero, st)) := ⟨rfl⟩
  clear hG hW h
  go_enter Tryd.func45, Tryd.ntmps45
  go_wp2_with (first | (go_at_call 61; with_reducible refine (HD.out _).mono ?_; rintro e w1 ⟨rfl, ⟨m1, rfl⟩⟩))
  go_ret
  rw [HE.out]
  exact ⟨rfl, ⟨12, A, cc, d, wd, lt, ft, rfl, by first | exact H.out.put0 12 | exact (H.out.drewN _).put0 12 | exact H.out.drewN _ | exact H.out⟩, by first | exact Below.refl _ _ | exact drewB _ | exact bset (Below.refl _ _) (Nat.le_refl _) | exact bset (drewB _) (Nat.le_refl _)⟩
 by_cases cd : isDig c
 ·have HD : Aside0 (∀ W, Calls Tryd.prog 61 #[.int .u8 c] W fun e w' => e = .returned (.bool true) ∧ Drawn0 W w') := ⟨fun W => by have := sDigit c W; rw [decide_eq_true cd] at this; exact this⟩
  have HE : Aside0 (step q c .minus st = .ok (.whole, st)) := ⟨by rw [step_minus, if_neg c48, if_pos cd]⟩
  have e48 : (c == 48) = false := beq_eq_false_iff_ne.mpr c48
  clear cd c48
  clear hG hW h
  go_enter Tryd.func45, Tryd.ntmps45
  go_wp2_with (first | (go_at_call 61; with_reducible refine (HD.out _).mono ?_; rintro e w1 ⟨rfl, ⟨m1, rfl⟩⟩))
  go_ret
  rw [HE.out]
  exact ⟨rfl, ⟨13, A, cc, d, wd, lt, ft, rfl, by first | exact H.out.put0 13 | exact (H.out.drewN _).put0 13 | exact H.out.drewN _ | exact H.out⟩, by first | exact Below.refl _ _ | exact drewB _ | exact bset (Below.refl _ _) (Nat.le_refl _) | exact bset (drewB _) (Nat.le_refl _)⟩
 have HD : Aside0 (∀ W, Calls Tryd.prog 61 #[.int .u8 c] W fun e w' => e = .returned (.bool false) ∧ Drawn0 W w') := ⟨fun W => by have := sDigit c W; rw [decide_eq_false cd] at this; exact this⟩
 have HE : Aside0 (step q c .minus st = .error (badWords q c wNumber, false)) := ⟨by rw [step_minus, if_neg c48, if_neg cd]⟩
 have e48 : (c == 48) = false := beq_eq_false_iff_ne.mpr c48
 have HC : Aside0 (∀ m : Nat, Calls Tryd.prog 58 #[.pointer (some ⟨b, 0, none⟩), .int .u8 c, .string wNumber] (w.drewN m) (Wrong b (badWords q c wNumber) (w.drewN m))) := ⟨fun m => sWrong (q := q) c wNumber hG (pw_below_drewN hW m) hb0 (h.drewN m) h0 h1 (by decide)⟩
 clear cd c48
 clear hG hW h
 go_enter Tryd.func45, Tryd.ntmps45
 go_wp2_with (first | (go_at_call 61; with_reducible refine (HD.out _).mono ?_; rintro e w1 ⟨rfl, ⟨m1, rfl⟩⟩))
 with_reducible refine (HC.out _).mono ?_
 rintro e w2 hw
 obtain ⟨B, rfl, HB⟩ := went_bool (went_wrong (f := false) hw)
 clear hw
 go_wp2_with fail
 go_ret
 rw [HE.out]
 exact went_from (drewB _) HB.out
set_option maxRecDepth 100000 in
set_option maxHeartbeats 8000000 in
theorem sNum_point (A : Option Addr) (cc : Nat) (c : Int) (hG : G q w0) (hW : Below w0.heap.size w0 w) (hb0 : w0.heap.size ≤ b) (h : SCW w b 14 (.slice A st.length cc) d wd lt ft st) (h0 : 0 ≤ c) (h1 : c < 256) (hl : st.length ≤ 20000) :
  Calls Tryd.prog 45 #[.pointer (some ⟨b, 0, none⟩), .int .u8 c] w (Went b w (step q c .point st)) := by
 obtain ⟨k0, z1, z2, z3, z4, z5⟩ := h.cells
 have f0 := h.free 0
 have H := Aside0.mk h
 clear z1 z2 z3 z4 z5
 by_cases cd : isDig c
 ·have HD : Aside0 (∀ W, Calls Tryd.prog 61 #[.int .u8 c] W fun e w' => e = .returned (.bool true) ∧ Drawn0 W w') := ⟨fun W => by have := sDigit c W; rw [decide_eq_true cd] at this; exact this⟩
  have HE : Aside0 (step q c .point st = .ok (.frac, st)) := ⟨if_pos cd⟩
  clear cd
  clear hG hW h
  go_enter Tryd.func45, Tryd.ntmps45
  go_wp2_with (first | (go_at_call 61; with_reducible refine (HD.out _).mono ?_; rintro e w1 ⟨rfl, ⟨m1, rfl⟩⟩))
  go_ret
  rw [HE.out]
  exact ⟨rfl, ⟨15, A, cc, d, wd, lt, ft, rfl, by first | exact H.out.put0 15 | exact (H.out.drewN _).put0 15 | exact H.out.drewN _ | exact H.out⟩, by first | exact Below.refl _ _ | exact drewB _ | exact bset (Below.refl _ _) (Nat.le_refl _) | exact bset (drewB _) (Nat.le_refl _)⟩
 have HD : Aside0 (∀ W, Calls Tryd.prog 61 #[.int .u8 c] W fun e w' => e = .returned (.bool false) ∧ Drawn0 W w') := ⟨fun W => by have := sDigit c W; rw [decide_eq_false cd] at this; exact this⟩
 have HE : Aside0 (step q c .point st = .error (badWords q c wFraction, false)) := ⟨if_neg cd⟩
 have HC : Aside0 (∀ m : Nat, Calls Tryd.prog 58 #[.pointer (some ⟨b, 0, none⟩), .int .u8 c, .string wFraction] (w.drewN m) (Wrong b (badWords q c wFraction) (w.drewN m))) := ⟨fun m => sWrong (q := q) c wFraction hG (pw_below_drewN hW m) hb0 (h.drewN m) h0 h1 (by decide)⟩
 clear cd
 clear hG hW h
 go_enter Tryd.func45, Tryd.ntmps45
 go_wp2_with (first | (go_at_call 61; with_reducible refine (HD.out _).mono ?_; rintro e w1 ⟨rfl, ⟨m1, rfl⟩⟩))
 with_reducible refine (HC.out _).mono ?_
 rintro e w2 hw
 obtain ⟨B, rfl, HB⟩ := went_bool (went_wrong (f := false) hw)
 clear hw
 go_wp2_with fail
 go_ret
 rw [HE.out]
 exact went_from (drewB _) HB.out
set_option maxRecDepth 100000 in
set_option maxHeartbeats 8000000 in
theorem sNum_e (A : Option Addr) (cc : Nat) (c : Int) (hG : G q w0) (hW : Below w0.heap.size w0 w) (hb0 : w0.heap.size ≤ b) (h : SCW w b 16 (.slice A st.length cc) d wd lt ft st) (h0 : 0 ≤ c) (h1 : c < 256) (hl : st.length ≤ 20000) :
  Calls Tryd.prog 45 #[.pointer (some ⟨b, 0, none⟩), .int .u8 c] w (Went b w (step q c .e st)) := by
 obtain ⟨k0, z1, z2, z3, z4, z5⟩ := h.cells
 have f0 := h.free 0
 have H := Aside0.mk h
 clear z1 z2 z3 z4 z5
 by_cases c43 : c = 43
 ·subst c43
  have HD : Aside0 (∀ W, Calls Tryd.prog 61 #[.int .u8 43] W fun e w' => e = .returned (.bool false) ∧ Drawn0 W w') := ⟨fun W => by have := sDigit 43 W; rw [decide_eq_false (by decide)] at this; exact this⟩
  have HE : Aside0 (step q 43 .e st = .ok (.sign, st)) := ⟨rfl⟩
  clear hG hW h
  go_enter Tryd.func45, Tryd.ntmps45
  go_wp2_with (first | (go_at_call 61; with_reducible refine (HD.out _).mono ?_; rintro e w1 ⟨rfl, ⟨m1, rfl⟩⟩))
  go_ret
  rw [HE.out]
  exact ⟨rfl, ⟨17, A, cc, d, wd, lt, ft, rfl, by first | exact H.out.put0 17 | exact (H.out.drewN _).put0 17 | exact H.out.drewN _ | exact H.out⟩, by first | exact Below.refl _ _ | exact drewB _ | exact bset (Below.refl _ _) (Nat.le_refl _) | exact bset (drewB _) (Nat.le_refl _)⟩
 by_cases c45 : c = 45
 ·subst c45
  have HD : Aside0 (∀ W, Calls Tryd.prog 61 #[.int .u8 45] W fun e w' => e = .returned (.bool false) ∧ Drawn0 W w') := ⟨fun W => by have := sDigit 45 W; rw [decide_eq_false (by decide)] at this; exact this⟩
  have HE : Aside0 (step q 45 .e st = .ok (.sign, st)) := ⟨rfl⟩
  clear hG hW h
  go_enter Tryd.func45, Tryd.ntmps45
  go_wp2_with (first | (go_at_call 61; with_reducible refine (HD.out _).mono ?_; rintro e w1 ⟨rfl, ⟨m1, rfl⟩⟩))
  go_ret
  rw [HE.out]
  exact ⟨rfl, ⟨17, A, cc, d, wd, lt, ft, rfl, by first | exact H.out.put0 17 | exact (H.out.drewN _).put0 17 | exact H.out.drewN _ | exact H.out⟩, by first | exact Below.refl _ _ | exact drewB _ | exact bset (Below.refl _ _) (Nat.le_refl _) | exact bset (drewB _) (Nat.le_refl _)⟩
 by_cases cd : isDig c
 ·have HD : Aside0 (∀ W, Calls Tryd.prog 61 #[.int .u8 c] W fun e w' => e = .returned (.bool true) ∧ Drawn0 W w') := ⟨fun W => by have := sDigit c W; rw [decide_eq_true cd] at this; exact this⟩
  have HE : Aside0 (step q c .e st = .ok (.exp, st)) := ⟨by rw [step_e, if_neg (by omega), if_pos cd]⟩
  have e43 : (c == 43) = false := beq_eq_false_iff_ne.mpr c43
  have e45 : (c == 45) = false := beq_eq_false_iff_ne.mpr c45
  clear cd c43 c45
  clear hG hW h
  go_enter Tryd.func45, Tryd.ntmps45
  go_wp2_with (first | (go_at_call 61; with_reducible refine (HD.out _).mono ?_; rintro e w1 ⟨rfl, ⟨m1, rfl⟩⟩))
  go_ret
  rw [HE.out]
  exact ⟨rfl, ⟨18, A, cc, d, wd, lt, ft, rfl, by first | exact H.out.put0 18 | exact (H.out.drewN _).put0 18 | exact H.out.drewN _ | exact H.out⟩, by first | exact Below.refl _ _ | exact drewB _ | exact bset (Below.refl _ _) (Nat.le_refl _) | exact bset (drewB _) (Nat.le_refl _)⟩
 have HD : Aside0 (∀ W, Calls Tryd.prog 61 #[.int .u8 c] W fun e w' => e = .returned (.bool false) ∧ Drawn0 W w') := ⟨fun W => by have := sDigit c W; rw [decide_eq_false cd] at this; exact this⟩
 have HE : Aside0 (step q c .e st = .error (badWords q c wExponent, false)) := ⟨by rw [step_e, if_neg (by omega), if_neg cd]⟩
 have e43 : (c == 43) = false := beq_eq_false_iff_ne.mpr c43
 have e45 : (c == 45) = false := beq_eq_false_iff_ne.mpr c45
 have HC : Aside0 (∀ m : Nat, Calls Tryd.prog 58 #[.pointer (some ⟨b, 0, none⟩), .int .u8 c, .string wExponent] (w.drewN m) (Wrong b (badWords q c wExponent) (w.drewN m))) := ⟨fun m => sWrong (q := q) c wExponent hG (pw_below_drewN hW m) hb0 (h.drewN m) h0 h1 (by decide)⟩
 clear cd c43 c45
 clear hG hW h
 go_enter Tryd.func45, Tryd.ntmps45
 go_wp2_with (first | (go_at_call 61; with_reducible refine (HD.out _).mono ?_; rintro e w1 ⟨rfl, ⟨m1, rfl⟩⟩))
 with_reducible refine (HC.out _).mono ?_
 rintro e w2 hw
 obtain ⟨B, rfl, HB⟩ := went_bool (went_wrong (f := false) hw)
 clear hw
 go_wp2_with fail
 go_ret
 rw [HE.out]
 exact went_from (drewB _) HB.out
set_option maxRecDepth 100000 in
set_option maxHeartbeats 8000000 in
theorem sNum_sign (A : Option Addr) (cc : Nat) (c : Int) (hG : G q w0) (hW : Below w0.heap.size w0 w) (hb0 : w0.heap.size ≤ b) (h : SCW w b 17 (.slice A st.length cc) d wd lt ft st) (h0 : 0 ≤ c) (h1 : c < 256) (hl : st.length ≤ 20000) :
  Calls Tryd.prog 45 #[.pointer (some ⟨b, 0, none⟩), .int .u8 c] w (Went b w (step q c .sign st)) := by
 obtain ⟨k0, z1, z2, z3, z4, z5⟩ := h.cells
 have f0 := h.free 0
 have H := Aside0.mk h
 clear z1 z2 z3 z4 z5
 by_cases cd : isDig c
 ·have HD : Aside0 (∀ W, Calls Tryd.prog 61 #[.int .u8 c] W fun e w' => e = .returned (.bool true) ∧ Drawn0 W w') := ⟨fun W => by have := sDigit c W; rw [decide_eq_true cd] at this; exact this⟩
  have HE : Aside0 (step q c .sign st = .ok (.exp, st)) := ⟨if_pos cd⟩
  clear cd
  clear hG hW h
  go_enter Tryd.func45, Tryd.ntmps45
  go_wp2_with (first | (go_at_call 61; with_reducible refine (HD.out _).mono ?_; rintro e w1 ⟨rfl, ⟨m1, rfl⟩⟩))
  go_ret
  rw [HE.out]
  exact ⟨rfl, ⟨18, A, cc, d, wd, lt, ft, rfl, by first | exact H.out.put0 18 | exact (H.out.drewN _).put0 18 | exact H.out.drewN _ | exact H.out⟩, by first | exact Below.refl _ _ | exact drewB _ | exact bset (Below.refl _ _) (Nat.le_refl _) | exact bset (drewB _) (Nat.le_refl _)⟩
 have HD : Aside0 (∀ W, Calls Tryd.prog 61 #[.int .u8 c] W fun e w' => e = .returned (.bool false) ∧ Drawn0 W w') := ⟨fun W => by have := sDigit c W; rw [decide_eq_false cd] at this; exact this⟩
 have HE : Aside0 (step q c .sign st = .error (badWords q c wExponent, false)) := ⟨if_neg cd⟩
 have HC : Aside0 (∀ m : Nat, Calls Tryd.prog 58 #[.pointer (some ⟨b, 0, none⟩), .int .u8 c, .string wExponent] (w.drewN m) (Wrong b (badWords q c wExponent) (w.drewN m))) := ⟨fun m => sWrong (q := q) c wExponent hG (pw_below_drewN hW m) hb0 (h.drewN m) h0 h1 (by decide)⟩
 clear cd
 clear hG hW h
 go_enter Tryd.func45, Tryd.ntmps45
 go_wp2_with (first | (go_at_call 61; with_reducible refine (HD.out _).mono ?_; rintro e w1 ⟨rfl, ⟨m1, rfl⟩⟩))
 with_reducible refine (HC.out _).mono ?_
 rintro e w2 hw
 obtain ⟨B, rfl, HB⟩ := went_bool (went_wrong (f := false) hw)
 clear hw
 go_wp2_with fail
 go_ret
 rw [HE.out]
 exact went_from (drewB _) HB.out
set_option maxRecDepth 100000 in
set_option maxHeartbeats 8000000 in
theorem sNum_zero (A : Option Addr) (cc : Nat) (c : Int) (hG : G q w0) (hW : Below w0.heap.size w0 w) (hb0 : w0.heap.size ≤ b) (h : SCW w b 12 (.slice A st.length cc) d wd lt ft st) (h0 : 0 ≤ c) (h1 : c < 256) (hl : st.length ≤ 20000) :
  Calls Tryd.prog 45 #[.pointer (some ⟨b, 0, none⟩), .int .u8 c] w (Went b w (step q c .zero st)) := by
 obtain ⟨k0, z1, z2, z3, z4, z5⟩ := h.cells
 have f0 := h.free 0
 have H := Aside0.mk h
 clear z1 z2 z3 z4 z5
 by_cases cd : isDig c
 ·have cz : c ≠ 46 ∧ c ≠ 101 ∧ c ≠ 69 := by unfold isDig at cd; omega
  obtain ⟨c46, c101, c69⟩ := cz
  have HD : Aside0 (∀ W, Calls Tryd.prog 61 #[.int .u8 c] W fun e w' => e = .returned (.bool true) ∧ Drawn0 W w') := ⟨fun W => by have := sDigit c W; rw [decide_eq_true cd] at this; exact this⟩
  have HE : Aside0 (step q c .zero st = between q c (closed st).1 (closed st).2) := ⟨by show numMore q c .zero st false true true = _; unfold numMore; rw [if_neg (by simp), if_neg (by simp [c46]), if_neg (by simp [c101, c69])]⟩
  have e46 : (c == 46) = false := beq_eq_false_iff_ne.mpr c46
  have e101 : (c == 101) = false := beq_eq_false_iff_ne.mpr c101
  have e69 : (c == 69) = false := beq_eq_false_iff_ne.mpr c69
  have HC := Aside0.mk (sBehindNum A cc c hG hW hb0 h h0 h1 hl)
  have HC0 : Aside0 (Calls Tryd.prog 60 #[.pointer (some ⟨b, 0, none⟩)] w fun e w' => e = .returned (.tuple #[]) ∧ Below b w w' ∧ Calls Tryd.prog 43 #[.pointer (some ⟨b, 0, none⟩), .int .u8 c] w' (Went b w' (between q c (closed st).1 (closed st).2))) := ⟨HC.out 0⟩
  clear cd c46 c101 c69
  clear hG hW h
  go_enter Tryd.func45, Tryd.ntmps45
  go_wp2_with (first | (go_at_call 61; with_reducible refine (HD.out _).mono ?_; rintro e w1 ⟨rfl, ⟨m1, rfl⟩⟩))
  first | (with_reducible refine (HC.out _).mono ?_) | (with_reducible refine HC0.out.mono ?_)
  rintro e w2 ⟨rfl, hb2, hc2⟩
  have HB2 := Aside0.mk hb2
  have HC2 := Aside0.mk hc2
  clear hb2 hc2
  go_wp2_with fail
  with_reducible refine HC2.out.mono ?_
  rintro e w3 hw
  obtain ⟨B, rfl, HB⟩ := went_bool hw
  clear hw
  go_wp2_with fail
  go_ret
  rw [HE.out]
  exact went_from HB2.out HB.out
 by_cases c46 : c = 46
 ·subst c46
  have HD : Aside0 (∀ W, Calls Tryd.prog 61 #[.int .u8 46] W fun e w' => e = .returned (.bool false) ∧ Drawn0 W w') := ⟨fun W => by have := sDigit 46 W; rw [decide_eq_false (by decide)] at this; exact this⟩
  have HE : Aside0 (step q 46 .zero st = .ok (.point, st)) := ⟨rfl⟩
  clear cd
  clear hG hW h
  go_enter Tryd.func45, Tryd.ntmps45
  go_wp2_with (first | (go_at_call 61; with_reducible refine (HD.out _).mono ?_; rintro e w1 ⟨rfl, ⟨m1, rfl⟩⟩))
  go_ret
  rw [HE.out]
  exact ⟨rfl, ⟨14, A, cc, d, wd, lt, ft, rfl, by first | exact H.out.put0 14 | exact (H.out.drewN _).put0 14 | exact H.out.drewN _ | exact H.out⟩, by first | exact Below.refl _ _ | exact drewB _ | exact bset (Below.refl _ _) (Nat.le_refl _) | exact bset (drewB _) (Nat.le_refl _)⟩
 by_cases c101 : c = 101
 ·subst c101
  have HD : Aside0 (∀ W, Calls Tryd.prog 61 #[.int .u8 101] W fun e w' => e = .returned (.bool false) ∧ Drawn0 W w') := ⟨fun W => by have := sDigit 101 W; rw [decide_eq_false (by decide)] at this; exact this⟩
  have HE : Aside0 (step q 101 .zero st = .ok (.e, st)) := ⟨rfl⟩
  clear cd
  clear hG hW h
  go_enter Tryd.func45, Tryd.ntmps45
  go_wp2_with (first | (go_at_call 61; with_reducible refine (HD.out _).mono ?_; rintro e w1 ⟨rfl, ⟨m1, rfl⟩⟩))
  go_ret
  rw [HE.out]
  exact ⟨rfl, ⟨16, A, cc, d, wd, lt, ft, rfl, by first | exact H.out.put0 16 | exact (H.out.drewN _).put0 16 | exact H.out.drewN _ | exact H.out⟩, by first | exact Below.refl _ _ | exact drewB _ | exact bset (Below.refl _ _) (Nat.le_refl _) | exact bset (drewB _) (Nat.le_refl _)⟩
 by_cases c69 : c = 69
 ·subst c69
  have HD : Aside0 (∀ W, Calls Tryd.prog 61 #[.int .u8 69] W fun e w' => e = .returned (.bool false) ∧ Drawn0 W w') := ⟨fun W => by have := sDigit 69 W; rw [decide_eq_false (by decide)] at this; exact this⟩
  have HE : Aside0 (step q 69 .zero st = .ok (.e, st)) := ⟨rfl⟩
  clear cd
  clear hG hW h
  go_enter Tryd.func45, Tryd.ntmps45
  go_wp2_with (first | (go_at_call 61; with_reducible refine (HD.out _).mono ?_; rintro e w1 ⟨rfl, ⟨m1, rfl⟩⟩))
  go_ret
  rw [HE.out]
  exact ⟨rfl, ⟨16, A, cc, d, wd, lt, ft, rfl, by first | exact H.out.put0 16 | exact (H.out.drewN _).put0 16 | exact H.out.drewN _ | exact H.out⟩, by first | exact Below.refl _ _ | exact drewB _ | exact bset (Below.refl _ _) (Nat.le_refl _) | exact bset (drewB _) (Nat.le_refl _)⟩
 have HD : Aside0 (∀ W, Calls Tryd.prog 61 #[.int .u8 c] W fun e w' => e = .returned (.bool false) ∧ Drawn0 W w') := ⟨fun W => by have := sDigit c W; rw [decide_eq_false cd] at this; exact this⟩
 have HE : Aside0 (step q c .zero st = between q c (closed st).1 (closed st).2) := ⟨by show numMore q c .zero st false true true = _; unfold numMore; rw [if_neg (by simp), if_neg (by simp [c46]), if_neg (by simp [c101, c69])]⟩
 have e46 : (c == 46) = false := beq_eq_false_iff_ne.mpr c46
 have e101 : (c == 101) = false := beq_eq_false_iff_ne.mpr c101
 have e69 : (c == 69) = false := beq_eq_false_iff_ne.mpr c69
 have HC := Aside0.mk (sBehindNum A cc c hG hW hb0 h h0 h1 hl)
 have HC0 : Aside0 (Calls Tryd.prog 60 #[.pointer (some ⟨b, 0, none⟩)] w fun e w' => e = .returned (.tuple #[]) ∧ Below b w w' ∧ Calls Tryd.prog 43 #[.pointer (some ⟨b, 0, none⟩), .int .u8 c] w' (Went b w' (between q c (closed st).1 (closed st).2))) := ⟨HC.out 0⟩
 clear cd c46 c101 c69
 clear hG hW h
 go_enter Tryd.func45, Tryd.ntmps45
 go_wp2_with (first | (go_at_call 61; with_reducible refine (HD.out _).mono ?_; rintro e w1 ⟨rfl, ⟨m1, rfl⟩⟩))
 first | (with_reducible refine (HC.out _).mono ?_) | (with_reducible refine HC0.out.mono ?_)
 rintro e w2 ⟨rfl, hb2, hc2⟩
 have HB2 := Aside0.mk hb2
 have HC2 := Aside0.mk hc2
 clear hb2 hc2
 go_wp2_with fail
 with_reducible refine HC2.out.mono ?_
 rintro e w3 hw
 obtain ⟨B, rfl, HB⟩ := went_bool hw
 clear hw
 go_wp2_with fail
 go_ret
 rw [HE.out]
 exact went_from HB2.out HB.out
set_option maxRecDepth 100000 in
set_option maxHeartbeats 8000000 in
theorem sNum_whole (A : Option Addr) (cc : Nat) (c : Int) (hG : G q w0) (hW : Below w0.heap.size w0 w) (hb0 : w0.heap.size ≤ b) (h : SCW w b 13 (.slice A st.length cc) d wd lt ft st) (h0 : 0 ≤ c) (h1 : c < 256) (hl : st.length ≤ 20000) :
  Calls Tryd.prog 45 #[.pointer (some ⟨b, 0, none⟩), .int .u8 c] w (Went b w (step q c .whole st)) := by
 obtain ⟨k0, z1, z2, z3, z4, z5⟩ := h.cells
 have f0 := h.free 0
 have H := Aside0.mk h
 clear z1 z2 z3 z4 z5
 by_cases cd : isDig c
 ·have HD : Aside0 (∀ W, Calls Tryd.prog 61 #[.int .u8 c] W fun e w' => e = .returned (.bool true) ∧ Drawn0 W w') := ⟨fun W => by have := sDigit c W; rw [decide_eq_true cd] at this; exact this⟩
  have HE : Aside0 (step q c .whole st = .ok (.whole, st)) := ⟨by show numMore q c .whole st true true true = _; unfold numMore; rw [if_pos ⟨rfl, cd⟩]⟩
  clear cd
  clear hG hW h
  go_enter Tryd.func45, Tryd.ntmps45
  go_wp2_with (first | (go_at_call 61; with_reducible refine (HD.out _).mono ?_; rintro e w1 ⟨rfl, ⟨m1, rfl⟩⟩))
  go_ret
  rw [HE.out]
  exact ⟨rfl, ⟨13, A, cc, d, wd, lt, ft, rfl, by first | exact H.out.put0 13 | exact (H.out.drewN _).put0 13 | exact H.out.drewN _ | exact H.out⟩, by first | exact Below.refl _ _ | exact drewB _ | exact bset (Below.refl _ _) (Nat.le_refl _) | exact bset (drewB _) (Nat.le_refl _)⟩
 by_cases c46 : c = 46
 ·subst c46
  have HD : Aside0 (∀ W, Calls Tryd.prog 61 #[.int .u8 46] W fun e w' => e = .returned (.bool false) ∧ Drawn0 W w') := ⟨fun W => by have := sDigit 46 W; rw [decide_eq_false (by decide)] at this; exact this⟩
  have HE : Aside0 (step q 46 .whole st = .ok (.point, st)) := ⟨rfl⟩
  clear cd
  clear hG hW h
  go_enter Tryd.func45, Tryd.ntmps45
  go_wp2_with (first | (go_at_call 61; with_reducible refine (HD.out _).mono ?_; rintro e w1 ⟨rfl, ⟨m1, rfl⟩⟩))
  go_ret
  rw [HE.out]
  exact ⟨rfl, ⟨14, A, cc, d, wd, lt, ft, rfl, by first | exact H.out.put0 14 | exact (H.out.drewN _).put0 14 | exact H.out.drewN _ | exact H.out⟩, by first | exact Below.refl _ _ | exact drewB _ | exact bset (Below.refl _ _) (Nat.le_refl _) | exact bset (drewB _) (Nat.le_refl _)⟩
 by_cases c101 : c = 101
 ·subst c101
  have HD : Aside0 (∀ W, Calls Tryd.prog 61 #[.int .u8 101] W fun e w' => e = .returned (.bool false) ∧ Drawn0 W w') := ⟨fun W => by have := sDigit 101 W; rw [decide_eq_false (by decide)] at this; exact this⟩
  have HE : Aside0 (step q 101 .whole st = .ok (.e, st)) := ⟨rfl⟩
  clear cd
  clear hG hW h
  go_enter Tryd.func45, Tryd.ntmps45
  go_wp2_with (first | (go_at_call 61; with_reducible refine (HD.out _).mono ?_; rintro e w1 ⟨rfl, ⟨m1, rfl⟩⟩))
  go_ret
  rw [HE.out]
  exact ⟨rfl, ⟨16, A, cc, d, wd, lt, ft, rfl, by first | exact H.out.put0 16 | exact (H.out.drewN _).put0 16 | exact H.out.drewN _ | exact H.out⟩, by first | exact Below.refl _ _ | exact drewB _ | exact bset (Below.refl _ _) (Nat.le_refl _) | exact bset (drewB _) (Nat.le_refl _)⟩
 by_cases c69 : c = 69
 ·subst c69
  have HD : Aside0 (∀ W, Calls Tryd.prog 61 #[.int .u8 69] W fun e w' => e = .returned (.bool false) ∧ Drawn0 W w') := ⟨fun W => by have := sDigit 69 W; rw [decide_eq_false (by decide)] at this; exact this⟩
  have HE : Aside0 (step q 69 .whole st = .ok (.e, st)) := ⟨rfl⟩
  clear cd
  clear hG hW h
  go_enter Tryd.func45, Tryd.ntmps45
  go_wp2_with (first | (go_at_call 61; with_reducible refine (HD.out _).mono ?_; rintro e w1 ⟨rfl, ⟨m1, rfl⟩⟩))
  go_ret
  rw [HE.out]
  exact ⟨rfl, ⟨16, A, cc, d, wd, lt, ft, rfl, by first | exact H.out.put0 16 | exact (H.out.drewN _).put0 16 | exact H.out.drewN _ | exact H.out⟩, by first | exact Below.refl _ _ | exact drewB _ | exact bset (Below.refl _ _) (Nat.le_refl _) | exact bset (drewB _) (Nat.le_refl _)⟩
 have HD : Aside0 (∀ W, Calls Tryd.prog 61 #[.int .u8 c] W fun e w' => e = .returned (.bool false) ∧ Drawn0 W w') := ⟨fun W => by have := sDigit c W; rw [decide_eq_false cd] at this; exact this⟩
 have HE : Aside0 (step q c .whole st = between q c (closed st).1 (closed st).2) := ⟨by show numMore q c .whole st true true true = _; unfold numMore; rw [if_neg (by simp [cd]), if_neg (by simp [c46]), if_neg (by simp [c101, c69])]⟩
 have e46 : (c == 46) = false := beq_eq_false_iff_ne.mpr c46
 have e101 : (c == 101) = false := beq_eq_false_iff_ne.mpr c101
 have e69 : (c == 69) = false := beq_eq_false_iff_ne.mpr c69
 have HC := Aside0.mk (sBehindNum A cc c hG hW hb0 h h0 h1 hl)
 have HC0 : Aside0 (Calls Tryd.prog 60 #[.pointer (some ⟨b, 0, none⟩)] w fun e w' => e = .returned (.tuple #[]) ∧ Below b w w' ∧ Calls Tryd.prog 43 #[.pointer (some ⟨b, 0, none⟩), .int .u8 c] w' (Went b w' (between q c (closed st).1 (closed st).2))) := ⟨HC.out 0⟩
 clear cd c46 c101 c69
 clear hG hW h
 go_enter Tryd.func45, Tryd.ntmps45
 go_wp2_with (first | (go_at_call 61; with_reducible refine (HD.out _).mono ?_; rintro e w1 ⟨rfl, ⟨m1, rfl⟩⟩))
 first | (with_reducible refine (HC.out _).mono ?_) | (with_reducible refine HC0.out.mono ?_)
 rintro e w2 ⟨rfl, hb2, hc2⟩
 have HB2 := Aside0.mk hb2
 have HC2 := Aside0.mk hc2
 clear hb2 hc2
 go_wp2_with fail
 with_reducible refine HC2.out.mono ?_
 rintro e w3 hw
 obtain ⟨B, rfl, HB⟩ := went_bool hw
 clear hw
 go_wp2_with fail
 go_ret
 rw [HE.out]
 exact went_from HB2.out HB.out
set_option maxRecDepth 100000 in
set_option maxHeartbeats 8000000 in
theorem sNum_frac (A : Option Addr) (cc : Nat) (c : Int) (hG : G q w0) (hW : Below w0.heap.size w0 w) (hb0 : w0.heap.size ≤ b) (h : SCW w b 15 (.slice A st.length cc) d wd lt ft st) (h0 : 0 ≤ c) (h1 : c < 256) (hl : st.length ≤ 20000) :
  Calls Tryd.prog 45 #[.pointer (some ⟨b, 0, none⟩), .int .u8 c] w (Went b w (step q c .frac st)) := by
 obtain ⟨k0, z1, z2, z3, z4, z5⟩ := h.cells
 have f0 := h.free 0
 have H := Aside0.mk h
 clear z1 z2 z3 z4 z5
 by_cases cd : isDig c
 ·have HD : Aside0 (∀ W, Calls Tryd.prog 61 #[.int .u8 c] W fun e w' => e = .returned (.bool true) ∧ Drawn0 W w') := ⟨fun W => by have := sDigit c W; rw [decide_eq_true cd] at this; exact this⟩
  have HE : Aside0 (step q c .frac st = .ok (.frac, st)) := ⟨by show numMore q c .frac st true false true = _; unfold numMore; rw [if_pos ⟨rfl, cd⟩]⟩
  clear cd
  clear hG hW h
  go_enter Tryd.func45, Tryd.ntmps45
  go_wp2_with (first | (go_at_call 61; with_reducible refine (HD.out _).mono ?_; rintro e w1 ⟨rfl, ⟨m1, rfl⟩⟩))
  go_ret
  rw [HE.out]
  exact ⟨rfl, ⟨15, A, cc, d, wd, lt, ft, rfl, by first | exact H.out.put0 15 | exact (H.out.drewN _).put0 15 | exact H.out.drewN _ | exact H.out⟩, by first | exact Below.refl _ _ | exact drewB _ | exact bset (Below.refl _ _) (Nat.le_refl _) | exact bset (drewB _) (Nat.le_refl _)⟩
 by_cases c101 : c = 101
 ·subst c101
  have HD : Aside0 (∀ W, Calls Tryd.prog 61 #[.int .u8 101] W fun e w' => e = .returned (.bool false) ∧ Drawn0 W w') := ⟨fun W => by have := sDigit 101 W; rw [decide_eq_false (by decide)] at this; exact this⟩
  have HE : Aside0 (step q 101 .frac st = .ok (.e, st)) := ⟨rfl⟩
  clear cd
  clear hG hW h
  go_enter Tryd.func45, Tryd.ntmps45
  go_wp2_with (first | (go_at_call 61; with_reducible refine (HD.out _).mono ?_; rintro e w1 ⟨rfl, ⟨m1, rfl⟩⟩))
  go_ret
  rw [HE.out]
  exact ⟨rfl, ⟨16, A, cc, d, wd, lt, ft, rfl, by first | exact H.out.put0 16 | exact (H.out.drewN _).put0 16 | exact H.out.drewN _ | exact H.out⟩, by first | exact Below.refl _ _ | exact drewB _ | exact bset (Below.refl _ _) (Nat.le_refl _) | exact bset (drewB _) (Nat.le_refl _)⟩
 by_cases c69 : c = 69
 ·subst c69
  have HD : Aside0 (∀ W, Calls Tryd.prog 61 #[.int .u8 69] W fun e w' => e = .returned (.bool false) ∧ Drawn0 W w') := ⟨fun W => by have := sDigit 69 W; rw [decide_eq_false (by decide)] at this; exact this⟩
  have HE : Aside0 (step q 69 .frac st = .ok (.e, st)) := ⟨rfl⟩
  clear cd
  clear hG hW h
  go_enter Tryd.func45, Tryd.ntmps45
  go_wp2_with (first | (go_at_call 61; with_reducible refine (HD.out _).mono ?_; rintro e w1 ⟨rfl, ⟨m1, rfl⟩⟩))
  go_ret
  rw [HE.out]
  exact ⟨rfl, ⟨16, A, cc, d, wd, lt, ft, rfl, by first | exact H.out.put0 16 | exact (H.out.drewN _).put0 16 | exact H.out.drewN _ | exact H.out⟩, by first | exact Below.refl _ _ | exact drewB _ | exact bset (Below.refl _ _) (Nat.le_refl _) | exact bset (drewB _) (Nat.le_refl _)⟩
 have HD : Aside0 (∀ W, Calls Tryd.prog 61 #[.int .u8 c] W fun e w' => e = .returned (.bool false) ∧ Drawn0 W w') := ⟨fun W => by have := sDigit c W; rw [decide_eq_false cd] at this; exact this⟩
 have HE : Aside0 (step q c .frac st = between q c (closed st).1 (closed st).2) := ⟨by show numMore q c .frac st true false true = _; unfold numMore; rw [if_neg (by simp [cd]), if_neg (by simp), if_neg (by simp [c101, c69])]⟩
 have e101 : (c == 101) = false := beq_eq_false_iff_ne.mpr c101
 have e69 : (c == 69) = false := beq_eq_false_iff_ne.mpr c69
 have HC := Aside0.mk (sBehindNum A cc c hG hW hb0 h h0 h1 hl)
 have HC0 : Aside0 (Calls Tryd.prog 60 #[.pointer (some ⟨b, 0, none⟩)] w fun e w' => e = .returned (.tuple #[]) ∧ Below b w w' ∧ Calls Tryd.prog 43 #[.pointer (some ⟨b, 0, none⟩), .int .u8 c] w' (Went b w' (between q c (closed st).1 (closed st).2))) := ⟨HC.out 0⟩
 clear cd c101 c69
 clear hG hW h
 go_enter Tryd.func45, Tryd.ntmps45
 go_wp2_with (first | (go_at_call 61; with_reducible refine (HD.out _).mono ?_; rintro e w1 ⟨rfl, ⟨m1, rfl⟩⟩))
 first | (with_reducible refine (HC.out _).mono ?_) | (with_reducible refine HC0.out.mono ?_)
 rintro e w2 ⟨rfl, hb2, hc2⟩
 have HB2 := Aside0.mk hb2
 have HC2 := Aside0.mk hc2
 clear hb2 hc2
 go_wp2_with fail
 with_reducible refine HC2.out.mono ?_
 rintro e w3 hw
 obtain ⟨B, rfl, HB⟩ := went_bool hw
 clear hw
 go_wp2_with fail
 go_ret
 rw [HE.out]
 exact went_from HB2.out HB.out
set_option maxRecDepth 100000 in
set_option maxHeartbeats 8000000 in
theorem sNum_exp (A : Option Addr) (cc : Nat) (c : Int) (hG : G q w0) (hW : Below w0.heap.size w0 w) (hb0 : w0.heap.size ≤ b) (h : SCW w b 18 (.slice A st.length cc) d wd lt ft st) (h0 : 0 ≤ c) (h1 : c < 256) (hl : st.length ≤ 20000) :
  Calls Tryd.prog 45 #[.pointer (some ⟨b, 0, none⟩), .int .u8 c] w (Went b w (step q c .exp st)) := by
 obtain ⟨k0, z1, z2, z3, z4, z5⟩ := h.cells
 have f0 := h.free 0
 have H := Aside0.mk h
 clear z1 z2 z3 z4 z5
 by_cases cd : isDig c
 ·have HD : Aside0 (∀ W, Calls Tryd.prog 61 #[.int .u8 c] W fun e w' => e = .returned (.bool true) ∧ Drawn0 W w') := ⟨fun W => by have := sDigit c W; rw [decide_eq_true cd] at this; exact this⟩
  have HE : Aside0 (step q c .exp st = .ok (.exp, st)) := ⟨by show numMore q c .exp st true false false = _; unfold numMore; rw [if_pos ⟨rfl, cd⟩]⟩
  clear cd
  clear hG hW h
  go_enter Tryd.func45, Tryd.ntmps45
  go_wp2_with (first | (go_at_call 61; with_reducible refine (HD.out _).mono ?_; rintro e w1 ⟨rfl, ⟨m1, rfl⟩⟩))
  go_ret
  rw [HE.out]
  exact ⟨rfl, ⟨18, A, cc, d, wd, lt, ft, rfl, by first | exact H.out.put0 18 | exact (H.out.drewN _).put0 18 | exact H.out.drewN _ | exact H.out⟩, by first | exact Below.refl _ _ | exact drewB _ | exact bset (Below.refl _ _) (Nat.le_refl _) | exact bset (drewB _) (Nat.le_refl _)⟩
 have HD : Aside0 (∀ W, Calls Tryd.prog 61 #[.int .u8 c] W fun e w' => e = .returned (.bool false) ∧ Drawn0 W w') := ⟨fun W => by have := sDigit c W; rw [decide_eq_false cd] at this; exact this⟩
 have HE : Aside0 (step q c .exp st = between q c (closed st).1 (closed st).2) := ⟨by show numMore q c .exp st true false false = _; unfold numMore; rw [if_neg (by simp [cd]), if_neg (by simp), if_neg (by simp)]⟩
 have HC := Aside0.mk (sBehindNum A cc c hG hW hb0 h h0 h1 hl)
 have HC0 : Aside0 (Calls Tryd.prog 60 #[.pointer (some ⟨b, 0, none⟩)] w fun e w' => e = .returned (.tuple #[]) ∧ Below b w w' ∧ Calls Tryd.prog 43 #[.pointer (some ⟨b, 0, none⟩), .int .u8 c] w' (Went b w' (between q c (closed st).1 (closed st).2))) := ⟨HC.out 0⟩
 clear cd
 clear hG hW h
 go_enter Tryd.func45, Tryd.ntmps45
 go_wp2_with (first | (go_at_call 61; with_reducible refine (HD.out _).mono ?_; rintro e w1 ⟨rfl, ⟨m1, rfl⟩⟩))
 first | (with_reducible refine (HC.out _).mono ?_) | (with_reducible refine HC0.out.mono ?_)
 rintro e w2 ⟨rfl, hb2, hc2⟩
 have HB2 := Aside0.mk hb2
 have HC2 := Aside0.mk hc2
 clear hb2 hc2
 go_wp2_with fail
 with_reducible refine HC2.out.mono ?_
 rintro e w3 hw
 obtain ⟨B, rfl, HB⟩ := went_bool hw
 clear hw
 go_wp2_with fail
 go_ret
 rw [HE.out]
 exact went_from HB2.out HB.out
set_option maxRecDepth 100000 in
set_option maxHeartbeats 8000000 in
theorem sText_text (A : Option Addr) (cc : Nat) (c : Int) (hG : G q w0) (hW : Below w0.heap.size w0 w) (hb0 : w0.heap.size ≤ b) (h : SCW w b 8 (.slice A st.length cc) d wd lt ft st) (h0 : 0 ≤ c) (h1 : c < 256) (hl : st.length ≤ 20000) :
  Calls Tryd.prog 44 #[.pointer (some ⟨b, 0, none⟩), .int .u8 c] w (Went b w (step q c .text st)) := by
 obtain ⟨k0, z1, k2, z3, z4, z5⟩ := h.cells
 have f0 := h.free 0
 have f2 := h.free 2
 have H := Aside0.mk h
 clear z1 z3 z4 z5
 by_cases c34 : c = 34
 ·subst c34
  have HE : Aside0 (step q 34 .text st = .ok (closed st)) := ⟨rfl⟩
  have HC := Aside0.mk (sClosed A cc h hl)
  clear hG hW h
  go_enter Tryd.func44, Tryd.ntmps44
  go_wp2_with fail
  with_reducible refine HC.out.mono ?_
  rintro e w2 ⟨rfl, hs, hb⟩
  have HS := Aside0.mk hs
  have HB := Aside0.mk hb
  clear hs hb
  go_wp2_with fail
  go_ret
  rw [HE.out]
  exact ⟨rfl, HS.out, HB.out⟩
 by_cases c92 : c = 92
 ·subst c92
  have HE : Aside0 (step q 92 .text st = .ok (.esc, st)) := ⟨rfl⟩
  clear hG hW h
  go_enter Tryd.func44, Tryd.ntmps44
  go_wp2_with fail
  go_ret
  rw [HE.out]
  exact ⟨rfl, ⟨9, A, cc, _, wd, lt, ft, rfl, H.out.put0 9⟩, bset (Below.refl _ _) (Nat.le_refl _)⟩
 by_cases c32 : c < 32
 ·have HE : Aside0 (step q c .text st = .error (badWords q c wString, false)) := ⟨by show (if c = 34 then _ else if c = 92 then _ else if c < 32 then _ else _) = _; rw [if_neg c34, if_neg c92, if_pos c32]⟩
  have e34 : (c == 34) = false := beq_eq_false_iff_ne.mpr c34
  have e92 : (c == 92) = false := beq_eq_false_iff_ne.mpr c92
  have e32 : decide (c < 32) = true := decide_eq_true c32
  have HC := Aside0.mk (sWrong (q := q) c wString hG hW hb0 h h0 h1 (by decide))
  clear c34 c92 c32
  clear hG hW h
  go_enter Tryd.func44, Tryd.ntmps44
  go_wp2_with fail
  with_reducible refine HC.out.mono ?_
  rintro e w2 hw
  obtain ⟨B, rfl, HB⟩ := went_bool (went_wrong (f := false) hw)
  clear hw
  go_wp2_with fail
  go_ret
  rw [HE.out]
  exact HB.out
 have HE : Aside0 (step q c .text st = .ok (.text, st)) := ⟨by show (if c = 34 then _ else if c = 92 then _ else if c < 32 then _ else _) = _; rw [if_neg c34, if_neg c92, if_neg c32]⟩
 have e34 : (c == 34) = false := beq_eq_false_iff_ne.mpr c34
 have e92 : (c == 92) = false := beq_eq_false_iff_ne.mpr c92
 have e32 : decide (c < 32) = false := decide_eq_false c32
 clear c34 c92 c32
 clear hG hW h
 go_enter Tryd.func44, Tryd.ntmps44
 go_wp2_with fail
 go_ret
 rw [HE.out]
 exact ⟨rfl, ⟨8, A, cc, _, wd, lt, ft, rfl, H.out⟩, Below.refl _ _⟩
set_option maxRecDepth 100000 in
set_option maxHeartbeats 8000000 in
theorem sText_esc (A : Option Addr) (cc : Nat) (c : Int) (hG : G q w0) (hW : Below w0.heap.size w0 w) (hb0 : w0.heap.size ≤ b) (h : SCW w b 9 (.slice A st.length cc) d wd lt ft st) (h0 : 0 ≤ c) (h1 : c < 256) (hl : st.length ≤ 20000) :
  Calls Tryd.prog 44 #[.pointer (some ⟨b, 0, none⟩), .int .u8 c] w (Went b w (step q c .esc st)) := by
 obtain ⟨k0, z1, k2, z3, z4, z5⟩ := h.cells
 have f0 := h.free 0
 have f2 := h.free 2
 have H := Aside0.mk h
 clear z1 z3 z4 z5
 by_cases ce : isEsc c
 ·have HE : Aside0 (step q c .esc st = .ok (.text, st)) := ⟨by show (if isEsc c then _ else if c = 117 then _ else _) = _; rw [if_pos ce]⟩
  unfold isEsc at ce
  clear hG hW h
  rcases ce with rfl | rfl | rfl | rfl | rfl | rfl | rfl | rfl
  all_goals
   go_enter Tryd.func44, Tryd.ntmps44
   go_wp2_with fail
   go_ret
   rw [HE.out]
   exact ⟨rfl, ⟨8, A, cc, _, wd, lt, ft, rfl, H.out.put0 8⟩, bset (Below.refl _ _) (Nat.le_refl _)⟩
 have hne : c ≠ 98 ∧ c ≠ 102 ∧ c ≠ 110 ∧ c ≠ 114 ∧ c ≠ 116 ∧ c ≠ 92 ∧ c ≠ 47 ∧ c ≠ 34 := by unfold isEsc at ce; omega
 obtain ⟨c98, c102, c110, c114, c116, c92, c47, c34⟩ := hne
 by_cases c117 : c = 117
 ·subst c117
  have HE : Aside0 (step q 117 .esc st = .ok (.dig 0, st)) := ⟨rfl⟩
  clear hG hW h
  go_enter Tryd.func44, Tryd.ntmps44
  go_wp2_with fail
  go_ret
  rw [HE.out]
  exact ⟨rfl, ⟨10, A, cc, 0, wd, lt, ft, ⟨rfl, rfl, by decide⟩, (H.out.put0 10).put2 0⟩, bset (bset (Below.refl _ _) (Nat.le_refl _)) (Nat.le_refl _)⟩
 have HE : Aside0 (step q c .esc st = .error (badWords q c wEscape, false)) := ⟨by show (if isEsc c then _ else if c = 117 then _ else _) = _; rw [if_neg ce, if_neg c117]⟩
 have e98 : (c == 98) = false := beq_eq_false_iff_ne.mpr c98
 have e102 : (c == 102) = false := beq_eq_false_iff_ne.mpr c102
 have e110 : (c == 110) = false := beq_eq_false_iff_ne.mpr c110
 have e114 : (c == 114) = false := beq_eq_false_iff_ne.mpr c114
 have e116 : (c == 116) = false := beq_eq_false_iff_ne.mpr c116
 have e92 : (c == 92) = false := beq_eq_false_iff_ne.mpr c92
 have e47 : (c == 47) = false := beq_eq_false_iff_ne.mpr c47
 have e34 : (c == 34) = false := beq_eq_false_iff_ne.mpr c34
 have e117 : (c == 117) = false := beq_eq_false_iff_ne.mpr c117
 have HC := Aside0.mk (sWrong (q := q) c wEscape hG hW hb0 h h0 h1 (by decide))
 clear ce c98 c102 c110 c114 c116 c92 c47 c34 c117
 clear hG hW h
 go_enter Tryd.func44, Tryd.ntmps44
 go_wp2_with fail
 with_reducible refine HC.out.mono ?_
 rintro e w2 hw
 obtain ⟨B, rfl, HB⟩ := went_bool (went_wrong (f := false) hw)
 clear hw
 go_wp2_with fail
 go_ret
 rw [HE.out]
 exact HB.out
set_option maxRecDepth 100000 in
set_option maxHeartbeats 8000000 in
theorem sText_dig (A : Option Addr) (cc : Nat) (c : Int) (k : Nat) (hk : k < 4) (hG : G q w0) (hW : Below w0.heap.size w0 w) (hb0 : w0.heap.size ≤ b) (h : SCW w b 10 (.slice A st.length cc) k wd lt ft st) (h0 : 0 ≤ c) (h1 : c < 256) (hl : st.length ≤ 20000) :
  Calls Tryd.prog 44 #[.pointer (some ⟨b, 0, none⟩), .int .u8 c] w (Went b w (step q c (.dig k) st)) := by
 obtain ⟨k0, z1, k2, z3, z4, z5⟩ := h.cells
 have f0 := h.free 0
 have f2 := h.free 2
 have H := Aside0.mk h
 clear z1 z3 z4 z5
 by_cases cx : isHex c
 ·have HX : Aside0 (Calls Tryd.prog 59 #[.int .u8 c] w fun e w' => e = .returned (.bool true) ∧ Drawn0 w w') := ⟨by have := sHex c h0 h1 w; rw [decide_eq_true cx] at this; exact this⟩
  clear hG hW
  obtain rfl | rfl | rfl | rfl : k = 0 ∨ k = 1 ∨ k = 2 ∨ k = 3 := by omega
  ·have HE : Aside0 (step q c (.dig 0) st = .ok (.dig 1, st)) := ⟨by rw [step_dig, if_pos cx]; rfl⟩
   have k2 : w.cell? ⟨b, 2, none⟩ = some (.int .i64 0) := k2
   have H : Aside0 (SCW w b 10 (.slice A st.length cc) 0 wd lt ft st) := ⟨H.out⟩
   clear cx h hk
   go_enter Tryd.func44, Tryd.ntmps44
   go_wp2_with fail
   with_reducible refine HX.out.mono ?_
   rintro e w1 ⟨rfl, ⟨m1, rfl⟩⟩
   go_wp2_with fail
   go_ret
   rw [HE.out]
   exact ⟨rfl, ⟨10, A, cc, 1, wd, lt, ft, ⟨rfl, rfl, by decide⟩, ((H.out.drewN m1).put2 1)⟩, bset (drewB m1) (Nat.le_refl _)⟩
  ·have HE : Aside0 (step q c (.dig 1) st = .ok (.dig 2, st)) := ⟨by rw [step_dig, if_pos cx]; rfl⟩
   have k2 : w.cell? ⟨b, 2, none⟩ = some (.int .i64 1) := k2
   have H : Aside0 (SCW w b 10 (.slice A st.length cc) 1 wd lt ft st) := ⟨H.out⟩
   clear cx h hk
   go_enter Tryd.func44, Tryd.ntmps44
   go_wp2_with fail
   with_reducible refine HX.out.mono ?_
   rintro e w1 ⟨rfl, ⟨m1, rfl⟩⟩
   go_wp2_with fail
   go_ret
   rw [HE.out]
   exact ⟨rfl, ⟨10, A, cc, 2, wd, lt, ft, ⟨rfl, rfl, by decide⟩, ((H.out.drewN m1).put2 2)⟩, bset (drewB m1) (Nat.le_refl _)⟩
  ·have HE : Aside0 (step q c (.dig 2) st = .ok (.dig 3, st)) := ⟨by rw [step_dig, if_pos cx]; rfl⟩
   have k2 : w.cell? ⟨b, 2, none⟩ = some (.int .i64 2) := k2
   have H : Aside0 (SCW w b 10 (.slice A st.length cc) 2 wd lt ft st) := ⟨H.out⟩
   clear cx h hk
   go_enter Tryd.func44, Tryd.ntmps44
   go_wp2_with fail
   with_reducible refine HX.out.mono ?_
   rintro e w1 ⟨rfl, ⟨m1, rfl⟩⟩
   go_wp2_with fail
   go_ret
   rw [HE.out]
   exact ⟨rfl, ⟨10, A, cc, 3, wd, lt, ft, ⟨rfl, rfl, by decide⟩, ((H.out.drewN m1).put2 3)⟩, bset (drewB m1) (Nat.le_refl _)⟩
  ·have HE : Aside0 (step q c (.dig 3) st = .ok (.text, st)) := ⟨by rw [step_dig, if_pos cx]; rfl⟩
   have k2 : w.cell? ⟨b, 2, none⟩ = some (.int .i64 3) := k2
   have H : Aside0 (SCW w b 10 (.slice A st.length cc) 3 wd lt ft st) := ⟨H.out⟩
   clear cx h hk
   go_enter Tryd.func44, Tryd.ntmps44
   go_wp2_with fail
   with_reducible refine HX.out.mono ?_
   rintro e w1 ⟨rfl, ⟨m1, rfl⟩⟩
   go_wp2_with fail
   go_ret
   rw [HE.out]
   exact ⟨rfl, ⟨8, A, cc, 4, wd, lt, ft, rfl, (((H.out.drewN m1).put2 4).put0 8)⟩, bset (bset (drewB m1) (Nat.le_refl _)) (Nat.le_refl _)⟩
 clear k2
 have HX : Aside0 (Calls Tryd.prog 59 #[.int .u8 c] w fun e w' => e = .returned (.bool false) ∧ Drawn0 w w') := ⟨by have := sHex c h0 h1 w; rw [decide_eq_false cx] at this; exact this⟩
 have HE : Aside0 (step q c (.dig k) st = .error (badWords q c wHex, false)) := ⟨by rw [step_dig, if_neg cx]⟩
 have HC : Aside0 (∀ m : Nat, Calls Tryd.prog 58 #[.pointer (some ⟨b, 0, none⟩), .int .u8 c, .string wHex] (w.drewN m) (Wrong b (badWords q c wHex) (w.drewN m))) := ⟨fun m => sWrong (q := q) c wHex hG (pw_below_drewN hW m) hb0 (h.drewN m) h0 h1 (by decide)⟩
 clear cx
 clear hG hW h
 go_enter Tryd.func44, Tryd.ntmps44
 go_wp2_with fail
 with_reducible refine HX.out.mono ?_
 rintro e w1 ⟨rfl, ⟨m1, rfl⟩⟩
 go_wp2_with fail
 with_reducible refine (HC.out _).mono ?_
 rintro e w2 hw
 obtain ⟨B, rfl, HB⟩ := went_bool (went_wrong (f := false) hw)
 clear hw
 go_wp2_with fail
 go_ret
 rw [HE.out]
 exact went_from (drewB m1) HB.out
end
end Go.Proofs.YtbikiibpjdiaaaaDoor.Err
/- The reference's scanner: a byte in a word; any byte; whether a value may end. -/
namespace Go.Proofs.YtbikiibpjdiaaaaDoor.Err
open Go.RowKit Go.Proofs.YtbikiibpjdiaaaaDoorW.PrintWords Go.Proofs.YtbikiibpjdiaaaaDoorW.PrintLast Go.Proofs.YtbikiibpjdiaaaaDoorW.PrintMore
open Go.Proofs.YtbikiibpjdiaaaaDoor.Dig Go.Proofs.YtbikiibpjdiaaaaDoor.Tab Go.Proofs.YtbikiibpjdiaaaaDoor.QL
set_option linter.unusedVariables false
theorem lit_facts (l : List Int) (hl : l = lTrue ∨ l = lFalse ∨ l = lNull) (k : Nat) (hk : k < l.length) : (litBytes l).size = l.length ∧ l.length ≤ 5 ∧ ∃ h : k < (litBytes l).size, (((litBytes l)[k]'h).toNat : Int) = l.getD k 0 := by
 rcases hl with rfl | rfl | rfl
 ·obtain rfl | rfl | rfl | rfl : k = 0 ∨ k = 1 ∨ k = 2 ∨ k = 3 := by have : k < 4 := hk; omega
  all_goals exact ⟨rfl, by decide, by decide, rfl⟩
 ·obtain rfl | rfl | rfl | rfl | rfl : k = 0 ∨ k = 1 ∨ k = 2 ∨ k = 3 ∨ k = 4 := by have : k < 5 := hk; omega
  all_goals exact ⟨rfl, by decide, by decide, rfl⟩
 ·obtain rfl | rfl | rfl | rfl : k = 0 ∨ k = 1 ∨ k = 2 ∨ k = 3 := by have : k < 4 := hk; omega
  all_goals exact ⟨rfl, by decide, by decide, rfl⟩
/-- The scanner in the midst of a word's fault. -/
def HoldL (w : World) (b : Nat) (v : Value) (d : Int) (wd : ByteArray) (k : Nat) (st : List Br) (w' : World) : Prop := Below b w w' ∧ ∃ ft, SCW w' b 19 v d wd k ft st
theorem HoldL.drew {w w' : World} {b : Nat} {v : Value} {d : Int} {wd : ByteArray} {k : Nat} {st : List Br} (h : HoldL w b v d wd k st w') : HoldL w b v d wd k st w'.drew := by
 obtain ⟨hb, ft, hs⟩ := h
 exact ⟨hb.drew, ft, hs.drew⟩
section
variable {q : ByteArray → ByteArray} {w0 w : World} {b : Nat} {a d lt : Int} {v : Value} {wd ft : ByteArray} {st : List Br}
set_option maxRecDepth 100000 in
set_option maxHeartbeats 8000000 in
theorem sLetters (A : Option Addr) (cc : Nat) (c : Int) (l : List Int) (k : Nat) (hl : l = lTrue ∨ l = lFalse ∨ l = lNull) (hk1 : 1 ≤ k) (hk : k < l.length) (hG : G q w0) (hW : Below w0.heap.size w0 w) (hb0 : w0.heap.size ≤ b) (h : SCW w b 19 (.slice A st.length cc) d (litBytes l) k ft st) (h0 : 0 ≤ c) (h1 : c < 256) (hs : st.length ≤ 20000) :
  Calls Tryd.prog 46 #[.pointer (some ⟨b, 0, none⟩), .int .u8 c] w (Went b w (step q c (.word l k) st)) := by
 obtain ⟨z0, z1, z2, k3, k4, z5⟩ := h.cells
 have f0 := h.free 0
 have f4 := h.free 4
 have hb := h.size
 obtain ⟨h2, h3, h4, h5⟩ := lit_facts l hl k hk
 obtain ⟨wd, hwd⟩ : ∃ wd, wd = litBytes l := ⟨_, rfl⟩
 have H := Aside0.mk h
 have HL := Aside0.mk hl
 have HWD := Aside0.mk hwd
 have HK1 := Aside0.mk hk1
 by_cases hc : c = l.getD k 0
 ·have e1 : (c != ((litBytes l)[k].toNat : Int)) = false := by rw [h5]; simp [hc]
  have HE : Aside0 (step q c (.word l k) st = .ok (if k + 1 = l.length then closed st else (.word l (k + 1), st))) := ⟨by rw [step_word, if_pos hc]⟩
  rw [← hwd] at k3
  have h2' : wd.size = l.length := by rw [hwd]; exact h2
  have hkw : k < wd.size := by omega
  have e2 : (c != (wd[k].toNat : Int)) = false := by
   subst hwd
   exact e1
  clear z0 z1 z2 z5 hl hG hW hk1 hwd e1 h5 hc h4 h2
  by_cases hlast : k + 1 = l.length
  ·have e3 : ((k : Int) + 1 == (wd.size : Int)) = true := by rw [h2']; simp; omega
   have H4 : Aside0 (Calls Tryd.prog 60 #[.pointer (some ⟨b, 0, none⟩)] (w.setCell ⟨b, 4, none⟩ (.int .i64 ((k : Int) + 1))).drew.drew fun e w' => e = .returned (.tuple #[]) ∧ SC w' b (closed st).1 (closed st).2 ∧ Below b (w.setCell ⟨b, 4, none⟩ (.int .i64 ((k : Int) + 1))).drew.drew w') := ⟨sClosed A cc ((H.out.put4 _).drew.drew) hs⟩
   have HE2 : Aside0 (step q c (.word l k) st = .ok (closed st)) := ⟨by rw [HE.out, if_pos hlast]⟩
   clear h hlast
   go_enter Tryd.func46, Tryd.ntmps46
   go_upto_region 1 with (fail)
   go_region
   go_wp2_with fail
   go_region
   go_wp2_with fail
   with_reducible refine H4.out.mono ?_
   rintro e w2 ⟨rfl, hs2, hb2⟩
   have HS2 := Aside0.mk hs2
   have HB2 := Aside0.mk hb2
   clear hs2 hb2
   go_wp2_with fail
   go_ret
   rw [HE2.out]
   exact ⟨rfl, HS2.out, (bset (Below.refl _ _) (Nat.le_refl _)).drew.drew.trans HB2.out⟩
  ·have e3 : ((k : Int) + 1 == (wd.size : Int)) = false := by rw [h2']; simp; omega
   have HE2 : Aside0 (step q c (.word l k) st = .ok (.word l (k + 1), st)) := ⟨by rw [HE.out, if_neg hlast]⟩
   have hlt : k + 1 < l.length := by omega
   clear h hlast
   go_enter Tryd.func46, Tryd.ntmps46
   go_upto_region 1 with (fail)
   go_region
   go_wp2_with fail
   go_region
   go_wp2_with fail
   go_ret
   rw [HE2.out]
   exact ⟨rfl, ⟨19, A, cc, d, _, (k : Int) + 1, ft, ⟨rfl, rfl, by omega, HL.out, by omega, hlt⟩, (H.out.put4 ((k : Int) + 1)).drew.drew⟩, (bset (Below.refl _ _) (Nat.le_refl _)).drew.drew⟩
 ·have e1 : (c != ((litBytes l)[k].toNat : Int)) = true := by rw [h5]; exact bne_iff_ne.mpr hc
  have HE : Aside0 (step q c (.word l k) st = .error (badWords q c (litWhat q l k), false)) := ⟨by rw [step_word, if_neg hc]⟩
  obtain ⟨x, hx⟩ : ∃ x, x = l.getD k 0 := ⟨_, rfl⟩
  rw [← hwd] at k3
  have h2' : wd.size = l.length := by rw [hwd]; exact h2
  have hkw : k < wd.size := by omega
  have hx2 : (wd[k].toNat : Int) = x := by
   subst hwd hx
   exact h5
  have hx3 : 0 ≤ x ∧ x < 256 := by have := UInt8.toNat_lt wd[k]; omega
  have e2 : (c != (wd[k].toNat : Int)) = true := by
   subst hwd
   exact e1
  have HX := Aside0.mk hx2
  have hqs := quoted_size q x w0 hG hx3.1 hx3.2
  have hws : (wLit ++ wd ++ wExp ++ quoted q x ++ wClose).size ≤ 10000 := by
   have : wLit.size = 11 ∧ wExp.size = 12 ∧ wClose.size = 1 := by decide
   simp only [ByteArray.size_append]
   omega
  have HQ : Aside0 (∀ W, Below w0.heap.size w0 W → Calls Tryd.prog 62 #[.int .u8 (wd[k].toNat : Int)] W fun e w' => e = .returned (.string (quoted q x)) ∧ Below W.heap.size W w') := ⟨fun W hb => by rw [HX.out]; exact sQuoted q x W (hG.below hb) hx3.1 hx3.2⟩
  have hlit : litWhat q l k = wLit ++ wd ++ wExp ++ quoted q x ++ wClose := by rw [hwd, hx]; rfl
  have HWR : Aside0 (∀ W, HoldL w b (.slice A st.length cc) d wd k st W → Calls Tryd.prog 58 #[.pointer (some ⟨b, 0, none⟩), .int .u8 c, .string (wLit ++ wd ++ wExp ++ quoted q x ++ wClose)] W fun e w' => e = .returned (.bool false) ∧ Went b w (step q c (.word l k) st) (.returned (.bool false)) w' ∧ w'.cell? ⟨b, 3, none⟩ = some (.string wd) ∧ w'.cell? ⟨b, 4, none⟩ = some (.int .i64 k) ∧ HoldL w b (.slice A st.length cc) d wd k st w') := ⟨fun W ⟨hb, ft2, hs2⟩ => by
   refine (sWrongS c _ hG (hW.trans (hb.mono hb0)) hb0 hs2 h0 h1 hws).mono ?_
   rintro e w' ⟨rfl, h5, h6⟩
   refine ⟨rfl, ?_, h5.cells.2.2.2.1, h5.cells.2.2.2.2.1, hb.trans h6, _, h5⟩
   rw [HE.out, hlit]
   exact ⟨rfl, h5.cells.2.2.2.2.2, hb.trans h6⟩⟩
  have HQ2 : Aside0 (∀ W, HoldL w b (.slice A st.length cc) d wd k st W → Calls Tryd.prog 62 #[.int .u8 (wd[k].toNat : Int)] W fun e w' => e = .returned (.string (quoted q x)) ∧ w'.cell? ⟨b, 3, none⟩ = some (.string wd) ∧ w'.cell? ⟨b, 4, none⟩ = some (.int .i64 k) ∧ HoldL w b (.slice A st.length cc) d wd k st w') := ⟨fun W ⟨hb, ft2, hs2⟩ => by
   refine (HQ.out W (hW.trans (hb.mono hb0))).mono ?_
   rintro e w' ⟨rfl, h5⟩
   have h6 := hs2.below h5
   exact ⟨rfl, h6.cells.2.2.2.1, h6.cells.2.2.2.2.1, hb.trans (h5.mono (Nat.le_of_lt hs2.size)), _, h6⟩⟩
  have HH : HoldL w b (.slice A st.length cc) d wd k st w.drew := ⟨(Below.refl _ _).drew, ft, by rw [hwd]; exact h.drew⟩
  have hz1 : ¬ 9223372036854775807 < 11 + wd.size := by omega
  have hz2 : ¬ 9223372036854775807 < 11 + wd.size + 12 := by omega
  have hz3 : ¬ 9223372036854775807 < 11 + wd.size + 12 + (quoted q x).size := by omega
  have hz4 : ¬ 9223372036854775807 < 11 + wd.size + 12 + (quoted q x).size + 1 := by omega
  clear z0 z1 z2 z5 hl hG hk1 hwd e1 h5 hc h4 h2 hx hx2 h hW h2' hws hqs HQ hlit
  go_enter Tryd.func46, Tryd.ntmps46
  go_upto_region 1 with (fail)
  go_region
  go_wp2_with fail
  go_region_held3 (fun w' => w'.cell? ⟨b, 3, none⟩ = some (.string wd) ∧ w'.cell? ⟨b, 4, none⟩ = some (.int .i64 k) ∧ HoldL w b (.slice A st.length cc) d wd k st w') (first | (refine ⟨?_, ?_, ?_⟩ <;> first | assumption | exact HoldL.drew ‹_›) | go_keep) (first
   | (go_at_call 62; with_reducible refine (HQ2.out _ ?_).mono ?_; (apply And.right; apply And.right; assumption); rintro e w1 ⟨rfl, y3, y4, y5⟩)
   | (go_at_call 58; with_reducible refine (HWR.out _ ?_).mono ?_; (apply And.right; apply And.right; assumption); rintro e w1 ⟨rfl, yw, y3, y4, y5⟩))
  all_goals
   have HY := Aside0.mk yw
   clear yw
   go_wp2_with fail
   go_ret
   exact HY.out
def txtP : Ph → Bool
 | .text | .esc | .dig _ => true
 | _ => false
def numP : Ph → Bool
 | .minus | .zero | .whole | .point | .frac | .e | .sign | .exp => true
 | _ => false
theorem kinds {ph : Ph} (hI : PhI ph a d wd lt) : (btw ph = true ∧ a ≤ 7) ∨ (txtP ph = true ∧ ¬ a ≤ 7 ∧ a ≤ 10) ∨ (numP ph = true ∧ ¬ a ≤ 7 ∧ ¬ a ≤ 10 ∧ a ≤ 18) ∨ ∃ l k, ph = .word l k := by
 cases ph
 case word l k => exact .inr (.inr (.inr ⟨l, k, rfl⟩))
 case dig k => obtain ⟨rfl, _⟩ := hI; exact .inr (.inl ⟨rfl, by decide, by decide⟩)
 all_goals
  cases hI
  first
   | exact .inl ⟨rfl, by decide⟩
   | exact .inr (.inl ⟨rfl, by decide, by decide⟩)
   | exact .inr (.inr (.inl ⟨rfl, by decide, by decide, by decide⟩))
set_option maxRecDepth 100000 in
set_option maxHeartbeats 8000000 in
/-- A byte, wherever the scanner stands. -/
theorem sTake (ph : Ph) (A : Option Addr) (cc : Nat) (c : Int) (hI : PhI ph a d wd lt) (hwf : WF ph st) (hG : G q w0) (hW : Below w0.heap.size w0 w) (hb0 : w0.heap.size ≤ b) (h : SCW w b a (.slice A st.length cc) d wd lt ft st) (h0 : 0 ≤ c) (h1 : c < 256) (hl : st.length ≤ 20000) :
  Calls Tryd.prog 33 #[.pointer (some ⟨b, 0, none⟩), .int .u8 c] w (Went b w (step q c ph st)) := by
 obtain ⟨k0, z1, z2, z3, z4, z5⟩ := h.cells
 clear z1 z2 z3 z4 z5
 rcases kinds hI with ⟨hb, h7⟩ | ⟨hb, h7, h10⟩ | ⟨hb, h7, h10, h18⟩ | ⟨l, k, rfl⟩
 ·have HC : Aside0 (Calls Tryd.prog 43 #[.pointer (some ⟨b, 0, none⟩), .int .u8 c] w (Went b w (step q c ph st))) := ⟨by
   have := sBetween ph A cc c hb hI hwf hG hW hb0 h h0 h1 hl
   cases ph <;> first | exact this | cases hb⟩
  have e7 : decide (a ≤ 7) = true := decide_eq_true h7
  clear hG hW h hwf hI hb h7
  go_enter Tryd.func33, Tryd.ntmps33
  go_wp2_with fail
  with_reducible refine HC.out.mono ?_
  rintro e w2 hw
  obtain ⟨B, rfl, HB⟩ := went_bool hw
  clear hw
  go_wp2_with fail
  go_ret
  exact HB.out
 ·have HC : Aside0 (Calls Tryd.prog 44 #[.pointer (some ⟨b, 0, none⟩), .int .u8 c] w (Went b w (step q c ph st))) := ⟨by
   cases ph <;> cases hb
   ·cases hI; exact sText_text A cc c hG hW hb0 h h0 h1 hl
   ·cases hI; exact sText_esc A cc c hG hW hb0 h h0 h1 hl
   ·obtain ⟨rfl, rfl, hk⟩ := hI; exact sText_dig A cc c _ hk hG hW hb0 h h0 h1 hl⟩
  have e7 : decide (a ≤ 7) = false := decide_eq_false h7
  have e10 : decide (a ≤ 10) = true := decide_eq_true h10
  clear hG hW h hwf hI hb h7 h10
  go_enter Tryd.func33, Tryd.ntmps33
  go_wp2_with fail
  with_reducible refine HC.out.mono ?_
  rintro e w2 hw
  obtain ⟨B, rfl, HB⟩ := went_bool hw
  clear hw
  go_wp2_with fail
  go_ret
  exact HB.out
 ·have HC : Aside0 (Calls Tryd.prog 45 #[.pointer (some ⟨b, 0, none⟩), .int .u8 c] w (Went b w (step q c ph st))) := ⟨by
   cases ph <;> cases hb <;> cases hI
   ·exact sNum_minus A cc c hG hW hb0 h h0 h1 hl
   ·exact sNum_zero A cc c hG hW hb0 h h0 h1 hl
   ·exact sNum_whole A cc c hG hW hb0 h h0 h1 hl
   ·exact sNum_point A cc c hG hW hb0 h h0 h1 hl
   ·exact sNum_frac A cc c hG hW hb0 h h0 h1 hl
   ·exact sNum_e A cc c hG hW hb0 h h0 h1 hl
   ·exact sNum_sign A cc c hG hW hb0 h h0 h1 hl
   ·exact sNum_exp A cc c hG hW hb0 h h0 h1 hl⟩
  have e7 : decide (a ≤ 7) = false := decide_eq_false h7
  have e10 : decide (a ≤ 10) = false := decide_eq_false h10
  have e18 : decide (a ≤ 18) = true := decide_eq_true h18
  clear hG hW h hwf hI hb h7 h10 h18
  go_enter Tryd.func33, Tryd.ntmps33
  go_wp2_with fail
  with_reducible refine HC.out.mono ?_
  rintro e w2 hw
  obtain ⟨B, rfl, HB⟩ := went_bool hw
  clear hw
  go_wp2_with fail
  go_ret
  exact HB.out
 ·obtain ⟨rfl, rfl, rfl, hm, hk1, hk⟩ := hI
  have HC := Aside0.mk (sLetters A cc c l k hm hk1 hk hG hW hb0 h h0 h1 hl)
  clear hG hW h hwf
  go_enter Tryd.func33, Tryd.ntmps33
  go_wp2_with fail
  with_reducible refine HC.out.mono ?_
  rintro e w2 hw
  obtain ⟨B, rfl, HB⟩ := went_bool hw
  clear hw
  go_wp2_with fail
  go_ret
  exact HB.out
/-- May a value end where the scanner stands? -/
def wholeB (ph : Ph) (st : List Br) : Bool := isAll ph || ender ph st
theorem ends_of {ph : Ph} (hI : PhI ph a d wd lt) : (ph = .all ∧ a = 7) ∨ (numFinal ph = true ∧ (a = 12 ∨ a = 13 ∨ a = 15 ∨ a = 18)) ∨ (numFinal ph = false ∧ (a == 7) = false ∧ (a == 12) = false ∧ (a == 13) = false ∧ (a == 15) = false ∧ (a == 18) = false) := by
 cases ph
 case word l k => obtain ⟨rfl, _⟩ := hI; exact .inr (.inr ⟨rfl, rfl, rfl, rfl, rfl, rfl⟩)
 case dig k => obtain ⟨rfl, _⟩ := hI; exact .inr (.inr ⟨rfl, rfl, rfl, rfl, rfl, rfl⟩)
 case all => exact .inl ⟨rfl, hI⟩
 all_goals
  cases hI
  first
   | exact .inr (.inl ⟨rfl, by decide⟩)
   | exact .inr (.inr ⟨rfl, rfl, rfl, rfl, rfl, rfl⟩)
set_option maxRecDepth 100000 in
set_option maxHeartbeats 8000000 in
theorem sWhole (ph : Ph) (A : Option Addr) (cc : Nat) (hI : PhI ph a d wd lt) (h : SCW w b a (.slice A st.length cc) d wd lt ft st) (hl : st.length ≤ 20000) :
  Calls Tryd.prog 39 #[.pointer (some ⟨b, 0, none⟩)] w fun e w' => e = .returned (.bool (wholeB ph st)) ∧ Drawn0 w w' := by
 obtain ⟨k0, k1, z2, z3, z4, z5⟩ := h.cells
 clear z2 z3 z4 z5 h
 rcases st with _ | ⟨x, r⟩
 ·rw [List.length_nil] at k1
  rcases ends_of hI with ⟨rfl, rfl⟩ | ⟨hf, rfl | rfl | rfl | rfl⟩ | ⟨hf, e7, e12, e13, e15, e18⟩
  ·go_enter Tryd.func39, Tryd.ntmps39
   go_wp2_with fail
   go_ret
   exact ⟨rfl, by repeat (first | exact Drawn0.refl _ | apply Drawn0.step)⟩
  all_goals
   have HE : Aside0 (wholeB ph [] = numFinal ph) := ⟨by cases ph <;> first | rfl | (simp [numFinal] at hf; done) | (cases hI; simp at e7; done)⟩
   rw [HE.out, hf]
   clear HE hf hI
   go_enter Tryd.func39, Tryd.ntmps39
   go_wp2_with fail
   go_ret
   exact ⟨rfl, by repeat (first | exact Drawn0.refl _ | apply Drawn0.step)⟩
 ·rw [List.length_cons] at k1
  rcases ends_of hI with ⟨rfl, rfl⟩ | ⟨hf, rfl | rfl | rfl | rfl⟩ | ⟨hf, e7, e12, e13, e15, e18⟩
  ·go_enter Tryd.func39, Tryd.ntmps39
   go_wp2_with fail
   go_ret
   exact ⟨rfl, by repeat (first | exact Drawn0.refl _ | apply Drawn0.step)⟩
  all_goals
   have HE : Aside0 (wholeB ph (x :: r) = false) := ⟨by cases ph <;> first | rfl | (simp [numFinal] at hf; done) | (cases hI; simp at e7; done)⟩
   rw [HE.out]
   clear HE hf hI
   go_enter Tryd.func39, Tryd.ntmps39
   go_wp2_with fail
   go_ret
   exact ⟨rfl, by repeat (first | exact Drawn0.refl _ | apply Drawn0.step)⟩
end
end Go.Proofs.YtbikiibpjdiaaaaDoor.Err
/- The reference's first fault, and the end of a value, as the plain scanner tells them. -/
namespace Go.Proofs.YtbikiibpjdiaaaaDoor.Err
open Go.RowKit Go.Proofs.YtbikiibpjdiaaaaDoorW.PrintWords Go.Proofs.YtbikiibpjdiaaaaDoorW.PrintLast Go.Proofs.YtbikiibpjdiaaaaDoorW.PrintMore
open Go.Proofs.YtbikiibpjdiaaaaDoor.Dig Go.Proofs.YtbikiibpjdiaaaaDoor.Tab Go.Proofs.YtbikiibpjdiaaaaDoor.QL
set_option linter.unusedVariables false
theorem wf_begin {q : ByteArray → ByteArray} {c : Int} {st : List Br} {s : Ph × List Br} (h : begin_ q c st = .ok s) : WF s.1 s.2 ∧ s.2.length ≤ st.length + 1 := by
 unfold begin_ at h
 repeat' split at h
 all_goals first
  | (cases h; exact ⟨List.cons_ne_nil _ _, Nat.le_refl _⟩)
  | (cases h; exact ⟨trivial, by simp⟩)
  | cases h
theorem wf_tail {st : List Br} : WF (closed st.tail).1 (closed st.tail).2 ∧ (closed st.tail).2.length ≤ st.length + 1 := ⟨wf_closed _, by rw [len_closed]; simp; omega⟩
theorem wf_name {q : ByteArray → ByteArray} {c : Int} {st : List Br} {s : Ph × List Br} (h : nameOf q c st = .ok s) : WF s.1 s.2 ∧ s.2.length ≤ st.length + 1 := by
 unfold nameOf at h
 split at h
 ·cases h; exact ⟨trivial, by simp⟩
 ·cases h
theorem wf_between {q : ByteArray → ByteArray} {c : Int} {ph : Ph} {st : List Br} {s : Ph × List Br} (hw : WF ph st) (h : between q c ph st = .ok s) : WF s.1 s.2 ∧ s.2.length ≤ st.length + 1 := by
 unfold between at h
 split at h
 ·cases h; exact ⟨hw, by simp⟩
 cases ph <;> simp only at h
 case val => exact wf_begin h
 case item0 =>
  split at h
  ·cases h; exact wf_tail
  ·exact wf_begin h
 case name0 =>
  split at h
  ·cases h; exact wf_tail
  ·exact wf_name h
 case name => exact wf_name h
 case colon =>
  split at h
  ·cases h; exact ⟨trivial, by simp⟩
  ·cases h
 case memb =>
  split at h
  ·cases h; exact ⟨hw, by simp⟩
  split at h
  ·cases h; exact wf_tail
  ·cases h
 case item =>
  split at h
  ·cases h; exact ⟨trivial, by simp⟩
  split at h
  ·cases h; exact wf_tail
  ·cases h
 all_goals cases h
theorem wf_more {q : ByteArray → ByteArray} {c : Int} {ph : Ph} {st : List Br} {s : Ph × List Br} {x y z : Bool} (hw : WF ph st) (h : numMore q c ph st x y z = .ok s) : WF s.1 s.2 ∧ s.2.length ≤ st.length + 1 := by
 unfold numMore at h
 split at h
 ·cases h; exact ⟨hw, by simp⟩
 split at h
 ·cases h; exact ⟨trivial, by simp⟩
 split at h
 ·cases h; exact ⟨trivial, by simp⟩
 ·have := wf_between (wf_closed st) h
  rw [len_closed] at this
  exact this
theorem wf_clo (st : List Br) : WF (closed st).1 (closed st).2 ∧ (closed st).2.length ≤ st.length + 1 := ⟨wf_closed st, by rw [len_closed]; omega⟩
theorem step_text (q : ByteArray → ByteArray) (c : Int) (st : List Br) : step q c .text st = if c = 34 then .ok (closed st) else if c = 92 then .ok (.esc, st) else if c < 32 then .error (badWords q c wString, false) else .ok (.text, st) := rfl
theorem step_esc (q : ByteArray → ByteArray) (c : Int) (st : List Br) : step q c .esc st = if isEsc c then .ok (.text, st) else if c = 117 then .ok (.dig 0, st) else .error (badWords q c wEscape, false) := rfl
theorem step_point (q : ByteArray → ByteArray) (c : Int) (st : List Br) : step q c .point st = if isDig c then .ok (.frac, st) else .error (badWords q c wFraction, false) := rfl
theorem step_sign (q : ByteArray → ByteArray) (c : Int) (st : List Br) : step q c .sign st = if isDig c then .ok (.exp, st) else .error (badWords q c wExponent, false) := rfl
/-- Where a step leads, brackets are open where they have to be; at most one more is open. -/
theorem wf_step {q : ByteArray → ByteArray} {c : Int} {ph : Ph} {st : List Br} {s : Ph × List Br} (hw : WF ph st) (h : step q c ph st = .ok s) : WF s.1 s.2 ∧ s.2.length ≤ st.length + 1 := by
 cases ph
 case text =>
  rw [step_text] at h
  repeat' split at h
  all_goals first
   | (cases h; exact wf_clo st)
   | (cases h; exact ⟨trivial, by simp⟩)
   | cases h
 case dig k =>
  rw [step_dig] at h
  split at h
  ·cases h
   refine ⟨?_, by simp⟩
   show WF (if k + 1 = 4 then .text else .dig (k + 1)) st
   split <;> exact trivial
  ·cases h
 case word l k =>
  rw [step_word] at h
  split at h
  ·cases h
   by_cases hk : k + 1 = l.length
   ·rw [if_pos hk]; exact wf_clo st
   ·rw [if_neg hk]; exact ⟨trivial, by simp⟩
  ·cases h
 case zero => exact wf_more hw h
 case whole => exact wf_more hw h
 case frac => exact wf_more hw h
 case exp => exact wf_more hw h
 case val => exact wf_between hw h
 case item0 => exact wf_between hw h
 case name0 => exact wf_between hw h
 case name => exact wf_between hw h
 case colon => exact wf_between hw h
 case memb => exact wf_between hw h
 case item => exact wf_between hw h
 case all => exact wf_between hw h
 case esc =>
  rw [step_esc] at h
  repeat' split at h
  all_goals first
   | (cases h; exact ⟨trivial, by simp⟩)
   | cases h
 case minus =>
  rw [step_minus] at h
  repeat' split at h
  all_goals first
   | (cases h; exact ⟨trivial, by simp⟩)
   | cases h
 case point =>
  rw [step_point] at h
  repeat' split at h
  all_goals first
   | (cases h; exact ⟨trivial, by simp⟩)
   | cases h
 case e =>
  rw [step_e] at h
  repeat' split at h
  all_goals first
   | (cases h; exact ⟨trivial, by simp⟩)
   | cases h
 case sign =>
  rw [step_sign] at h
  repeat' split at h
  all_goals first
   | (cases h; exact ⟨trivial, by simp⟩)
   | cases h
theorem sc_new (w : World) : SCW (w.alloc (.cells #[.int .i64 0, .slice none 0 0, .int .i64 0, .string ByteArray.empty, .int .i64 0, .string ByteArray.empty] 58)) w.heap.size 0 (.slice none ([] : List Br).length 0) 0 ByteArray.empty 0 ByteArray.empty [] :=
 ⟨blk_new w _, World.ownsRow_nil _ _ _ _⟩
section
variable {q : ByteArray → ByteArray} {w0 w : World} {b : Nat} {a d lt : Int} {v : Value} {wd ft : ByteArray} {st : List Br}
/-- May a byte stand behind a value? -/
def mayEnd (c : Int) : Prop := isBlank c ∨ c = 44 ∨ c = 93 ∨ c = 125 ∨ c = 58
instance (c : Int) : Decidable (mayEnd c) := by unfold mayEnd; exact inferInstance
theorem sEnds (c : Int) (h0 : 0 ≤ c) (h1 : c < 256) (w : World) : Calls Tryd.prog 76 #[.int .u8 c] w fun e w' => e = .returned (.bool (decide (mayEnd c))) ∧ Drawn0 w w' := spec_ends.calls c _ w (by
 have hall : ∀ n : Fin 256, spec_ends.f ((n.val : Nat) : Int) = some (decide (mayEnd ((n.val : Nat) : Int))) := by decide +kernel
 have := hall ⟨c.toNat, by omega⟩
 simpa [Int.toNat_of_nonneg h0] using this)
/-- What a value is behind which a byte stands. -/
def behK (l : List Int) (x : Int) : Int := if x = l.length then 1 else if mayEnd (rd l x) then 1 else 2
set_option maxRecDepth 100000 in
set_option maxHeartbeats 8000000 in
theorem sBehind (A : Option Addr) (c : Nat) (l : List Int) (x : Int) (w : World) (hC : Kd.C (Kd.int .u8) w A l.length l) (hb : ∀ y, y ∈ l → 0 ≤ y ∧ y < 256) (hl : l.length ≤ 10000) (h0 : 0 ≤ x) (h1 : x ≤ l.length) :
  Calls Tryd.prog 68 #[.slice A l.length c, .int .i64 x] w fun e w' => e = .returned (.tuple #[.int .i64 x, .int .i64 (behK l x)]) ∧ Drawn0 w w' := by
 by_cases hx : x = l.length
 ·have e1 : behK l x = 1 := if_pos hx
  have HE := Aside0.mk e1
  clear e1 hC hb
  subst hx
  go_enter Tryd.func68, Tryd.ntmps68
  go_wp2_with fail
  go_ret2
  rw [HE.out]
  exact ⟨rfl, by repeat (first | exact Drawn0.refl _ | apply Drawn0.step)⟩
 ·have f1 : (x == (l.length : Int)) = false := beq_eq_false_iff_ne.mpr hx
  obtain ⟨ad, rfl, hc⟩ := Kd.at_int hC x h0 (by omega)
  have hby := hb (rd l x) (by obtain ⟨hh, e⟩ := rd_get l x h0 (by omega); rw [e]; exact List.getElem_mem _)
  have hlt : x < (l.length : Int) := by omega
  by_cases he : mayEnd (rd l x)
  ·have e1 : behK l x = 1 := by unfold behK; rw [if_neg hx, if_pos he]
   have HE := Aside0.mk e1
   have HK : Aside0 (∀ W, Calls Tryd.prog 76 #[.int .u8 (rd l x)] W fun e w' => e = .returned (.bool true) ∧ Drawn0 W w') := ⟨fun W => by have := sEnds (rd l x) hby.1 hby.2 W; rw [decide_eq_true he] at this; exact this⟩
   clear e1 he hC hb hx
   go_enter Tryd.func68, Tryd.ntmps68
   go_wp2_with (first | (go_at_call 76; with_reducible refine (HK.out _).mono ?_; rintro e w1 ⟨rfl, ⟨m1, rfl⟩⟩))
   go_ret2
   rw [HE.out]
   exact ⟨rfl, by repeat (first | exact Drawn0.refl _ | apply Drawn0.step)⟩
  ·have e1 : behK l x = 2 := by unfold behK; rw [if_neg hx, if_neg he]
   have HE := Aside0.mk e1
   have HK : Aside0 (∀ W, Calls Tryd.prog 76 #[.int .u8 (rd l x)] W fun e w' => e = .returned (.bool false) ∧ Drawn0 W w') := ⟨fun W => by have := sEnds (rd l x) hby.1 hby.2 W; rw [decide_eq_false he] at this; exact this⟩
   clear e1 he hC hb hx
   go_enter Tryd.func68, Tryd.ntmps68
   go_wp2_with (first | (go_at_call 76; with_reducible refine (HK.out _).mono ?_; rintro e w1 ⟨rfl, ⟨m1, rfl⟩⟩))
   go_ret2
   rw [HE.out]
   exact ⟨rfl, by repeat (first | exact Drawn0.refl _ | apply Drawn0.step)⟩
/-- What the reference tells of a value. -/
def veV (l : List Int) : Out → Value
 | .done e => .tuple #[.int .i64 e, .int .i64 (behK l e)]
 | .fault _ => .tuple #[.int .i64 0, .int .i64 0]
theorem phI_all {ph : Ph} (h : PhI ph a d wd lt) : (a == 7) = isAll ph := by
 cases ph <;> simp only [PhI] at h <;> first
  | (subst h; rfl)
  | (obtain ⟨rfl, _⟩ := h; rfl)
theorem rd_out (l : List Int) (i : Nat) (h : i < l.length) : rd (l ++ [0]) (i : Int) = rd l i := rd_app l [0] i h
set_option maxRecDepth 100000 in
set_option maxHeartbeats 8000000 in
theorem valueEnd (A : Option Addr) (c : Nat) (l : List Int) (x : Int) (w : World) (hG : G q w) (hC : Kd.C (Kd.int .u8) w A l.length l) (hcap : l.length ≤ c) (hb : ∀ y, y ∈ l → 0 ≤ y ∧ y < 256) (hl : l.length ≤ 10000) (h0 : 0 ≤ x) (h1 : x ≤ l.length) :
  Calls Tryd.prog 50 #[.slice A l.length c, .int .i64 x] w fun e w' => e = .returned (veV l (out q (l ++ [0]) .val [] x)) ∧ Below w.heap.size w w' := by
 obtain ⟨x, rfl⟩ := Int.eq_ofNat_of_zero_le h0
 have HC := Aside0.mk hC
 have HG := Aside0.mk hG
 have HBY := Aside0.mk hb
 have HLEN : Aside0 ((l ++ [0]).length = l.length + 1) := ⟨by rw [List.length_append]; rfl⟩
 have HBH : Aside0 (∀ (W : World) (y : Int), 0 ≤ y → y ≤ l.length → Below w.heap.size w W → Calls Tryd.prog 68 #[.slice A l.length c, .int .i64 y] W fun e w' => e = .returned (.tuple #[.int .i64 y, .int .i64 (behK l y)]) ∧ Drawn0 W w') := ⟨fun W y hy0 hy1 hbl => sBehind A c l y W (Kd.C_below hC hbl) hb hl hy0 hy1⟩
 clear hC hG hb
 go_enter Tryd.func50, Tryd.ntmps50
 go_wp2_with fail
 go_loopg [7] (l.length + 1) (fun kq v7 w' => ∃ (i : Nat) (ph : Ph) (st : List Br), v7 = .int .i64 i ∧ Aside0 (i ≤ l.length ∧ l.length + 1 ≤ i + kq ∧ WF ph st ∧ isAll ph = false ∧ st.length ≤ i ∧ out q (l ++ [0]) .val [] (x : Int) = out q (l ++ [0]) ph st (i : Int) ∧ SC w' w.heap.size ph st ∧ Below w.heap.size w w'))
 case atStart => exact ⟨x, .val, [], rfl, by omega, by omega, trivial, rfl, by simp, rfl, ⟨_, _, _, _, _, _, _, rfl, sc_new w⟩, below_alloc (Below.refl _ _) _⟩
 case round =>
  obtain ⟨i, ph, st, rfl, HA⟩ := hrel
  obtain ⟨hi, hk, hwf, hall, hsl, hout, ⟨a, A2, cc, d, wd, lt, ft, hI, hS⟩, hBB⟩ := HA.out
  clear HA
  have hWh := sWhole ph A2 cc hI hS (by omega)
  have hwe : wholeB ph st = ender ph st := by unfold wholeB; rw [hall]; rfl
  rw [hwe] at hWh
  have HWh := Aside0.mk hWh
  have HB := Aside0.mk hBB
  have hlen := HLEN.out
  by_cases hlt : i < l.length
  ·obtain ⟨ad, rfl, hx⟩ := Kd.at_int (Kd.C_below HC.out hBB) i (by omega) (by omega)
   rw [Int.toNat_natCast] at hx
   have hby := HBY.out (rd l i) (by obtain ⟨hh, e⟩ := rd_get l i (by omega) (by omega); rw [e]; exact List.getElem_mem _)
   have hT : ∀ n, Calls Tryd.prog 33 #[.pointer (some ⟨w.heap.size, 0, none⟩), .int .u8 (rd l i)] (wr.drewN n) (Went w.heap.size (wr.drewN n) (step q (rd l i) ph st)) := fun n => sTake (q := q) ph A2 cc (rd l i) hI hwf HG.out (pw_below_drewN hBB n) (Nat.le_refl _) (hS.drewN n) hby.1 hby.2 (by omega)
   have hoa := out_at q (l ++ [0]) ph st (i : Int) (by omega) (by omega)
   rw [rd_out l i hlt] at hoa
   clear hwe hWh
   cases hst : step q (rd l i) ph st with
   | error m =>
    rw [hst] at hT hoa
    dsimp only at hoa
    have HT := Aside0.mk hT
    cases hen : ender ph st with
    | true =>
     rw [hen] at hoa HWh
     have HRES : Aside0 (veV l (out q (l ++ [0]) .val [] (x : Int)) = .tuple #[.int .i64 i, .int .i64 (behK l i)]) := ⟨by rw [hout, hoa]; rfl⟩
     clear hT hoa hst hout hI hS hBB hen hall
     go_wp2_with fail
     with_reducible refine HWh.out.mono ?_
     rintro e w1 ⟨rfl, ⟨n, rfl⟩⟩
     go_wp2_with fail
     with_reducible refine (HT.out _).mono ?_
     rintro e w1 ⟨rfl, h5, h6⟩
     have HB1 := Aside0.mk ((pw_below_drewN HB.out n).trans h6)
     clear h5 h6
     go_wp2_with fail
     with_reducible refine (HBH.out _ _ (by omega) (by omega) ?_).mono ?_
     ·exact HB1.out
     rintro e w2 ⟨rfl, ⟨n2, rfl⟩⟩
     go_wp2_with fail
     go_ret2
     rw [HRES.out]
     exact ⟨rfl, pw_below_drewN HB1.out _⟩
    | false =>
     rw [hen] at hoa HWh
     have HRES : Aside0 (veV l (out q (l ++ [0]) .val [] (x : Int)) = .tuple #[.int .i64 0, .int .i64 0]) := ⟨by rw [hout, hoa]; rfl⟩
     clear hT hoa hst hout hI hS hBB hen hall
     go_wp2_with fail
     with_reducible refine HWh.out.mono ?_
     rintro e w1 ⟨rfl, ⟨n, rfl⟩⟩
     go_wp2_with fail
     with_reducible refine (HT.out _).mono ?_
     rintro e w1 ⟨rfl, h5, h6⟩
     have HB1 := Aside0.mk ((pw_below_drewN HB.out n).trans h6)
     clear h5 h6
     go_wp2_with fail
     go_ret2
     rw [HRES.out]
     exact ⟨rfl, HB1.out⟩
   | ok s =>
    rw [hst] at hT hoa
    dsimp only at hoa
    have hws := wf_step hwf hst
    have HT := Aside0.mk hT
    have HWS := Aside0.mk hws
    have START : Aside0 (∀ w1, SC w1 w.heap.size s.1 s.2 → ∃ a2, w1.cell? ⟨w.heap.size, 0, none⟩ = some (.int .i64 a2) ∧ (a2 == 7) = isAll s.1) := ⟨fun w1 ⟨a2, A3, c3, d3, wd3, lt3, ft3, hI3, hS3⟩ => ⟨a2, hS3.cells.1, phI_all hI3⟩⟩
    cases hal : isAll s.1 with
    | true =>
     rw [hal] at hoa START
     cases hen : ender ph st with
     | true =>
      rw [hen] at hoa HWh
      have HRES : Aside0 (veV l (out q (l ++ [0]) .val [] (x : Int)) = .tuple #[.int .i64 i, .int .i64 (behK l i)]) := ⟨by rw [hout, hoa]; rfl⟩
      clear hT hoa hst hout hI hS hBB hen hall hws hal
      go_wp2_with fail
      with_reducible refine HWh.out.mono ?_
      rintro e w1 ⟨rfl, ⟨n, rfl⟩⟩
      go_wp2_with fail
      with_reducible refine (HT.out _).mono ?_
      rintro e w1 ⟨rfl, h5, h6⟩
      have HB1 := Aside0.mk ((pw_below_drewN HB.out n).trans h6)
      obtain ⟨a2, ha2, hb2⟩ := START.out w1 h5
      clear h5 h6
      go_wp2_with fail
      with_reducible refine (HBH.out _ _ (by omega) (by omega) ?_).mono ?_
      ·exact HB1.out
      rintro e w2 ⟨rfl, ⟨n2, rfl⟩⟩
      go_wp2_with fail
      go_ret2
      rw [HRES.out]
      exact ⟨rfl, pw_below_drewN HB1.out _⟩
     | false =>
      rw [hen] at hoa HWh
      have HRES : Aside0 (veV l (out q (l ++ [0]) .val [] (x : Int)) = .tuple #[.int .i64 ((i : Int) + 1), .int .i64 (behK l ((i : Int) + 1))]) := ⟨by rw [hout, hoa]; rfl⟩
      clear hT hoa hst hout hI hS hBB hen hall hws hal
      go_wp2_with fail
      with_reducible refine HWh.out.mono ?_
      rintro e w1 ⟨rfl, ⟨n, rfl⟩⟩
      go_wp2_with fail
      with_reducible refine (HT.out _).mono ?_
      rintro e w1 ⟨rfl, h5, h6⟩
      have HB1 := Aside0.mk ((pw_below_drewN HB.out n).trans h6)
      obtain ⟨a2, ha2, hb2⟩ := START.out w1 h5
      clear h5 h6
      go_wp2_with fail
      with_reducible refine (HBH.out _ _ (by omega) (by omega) ?_).mono ?_
      ·exact HB1.out
      rintro e w2 ⟨rfl, ⟨n2, rfl⟩⟩
      go_wp2_with fail
      go_ret2
      rw [HRES.out]
      exact ⟨rfl, pw_below_drewN HB1.out _⟩
    | false =>
     rw [hal] at hoa START
     have HF : Aside0 (out q (l ++ [0]) .val [] (x : Int) = out q (l ++ [0]) s.1 s.2 ((i + 1 : Nat) : Int)) := ⟨by rw [hout, hoa]; rfl⟩
     have HAL := Aside0.mk hal
     obtain _ | g0 := gk
     ·exfalso; omega
     clear hT hoa hst hout hI hS hBB hall hws hal hwf
     cases hen : ender ph st
     all_goals
      rw [hen] at HWh
      clear hen
      go_wp2_with fail
      with_reducible refine HWh.out.mono ?_
      rintro e w1 ⟨rfl, ⟨n, rfl⟩⟩
      go_wp2_with fail
      with_reducible refine (HT.out _).mono ?_
      rintro e w1 ⟨rfl, h5, h6⟩
      have HB1 := Aside0.mk ((pw_below_drewN HB.out n).trans h6)
      obtain ⟨a2, ha2, hb2⟩ := START.out w1 h5
      have HS5 := Aside0.mk h5
      clear h5 h6
      go_wp2_with fail
      go_roundg g0
      case measure => omega
      case rel => exact ⟨i + 1, s.1, s.2, rfl, by omega, by omega, HWS.out.1, HAL.out, by have := HWS.out.2; omega, HF.out, HS5.out, HB1.out⟩
  ·have hil : i = l.length := by omega
   have hoe := out_end q (l ++ [0]) ph st (i : Int) (by rw [hlen]; omega) (by omega)
   cases hen : ender ph st with
   | true =>
    rw [hen] at hoe HWh
    have HRES : Aside0 (veV l (out q (l ++ [0]) .val [] (x : Int)) = .tuple #[.int .i64 l.length, .int .i64 1]) := ⟨by rw [hout, hoe, ← hil]; show Value.tuple #[.int .i64 (i : Int), .int .i64 (behK l (i : Int))] = _; unfold behK; rw [if_pos (by omega)]⟩
    clear hoe hout hI hS hBB hen hall hwf hwe hWh
    go_wp2_with fail
    with_reducible refine HWh.out.mono ?_
    rintro e w1 ⟨rfl, ⟨n, rfl⟩⟩
    go_wp2_with fail
    go_ret2
    rw [HRES.out]
    exact ⟨rfl, pw_below_drewN HB.out _⟩
   | false =>
    rw [hen] at hoe HWh
    have HRES : Aside0 (veV l (out q (l ++ [0]) .val [] (x : Int)) = .tuple #[.int .i64 0, .int .i64 0]) := ⟨by rw [hout, hoe]; rfl⟩
    clear hoe hout hI hS hBB hen hall hwf hwe hWh
    go_wp2_with fail
    with_reducible refine HWh.out.mono ?_
    rintro e w1 ⟨rfl, ⟨n, rfl⟩⟩
    go_wp2_with fail
    go_ret2
    rw [HRES.out]
    exact ⟨rfl, pw_below_drewN HB.out _⟩
/-- What the reference tells of a text. -/
def teV : Out → Value
 | .done e => .tuple #[.int .i64 e, .bool true]
 | .fault _ => .tuple #[.int .i64 0, .bool false]
set_option maxRecDepth 100000 in
set_option maxHeartbeats 8000000 in
theorem textEnd (A : Option Addr) (c : Nat) (l : List Int) (x : Int) (w : World) (hG : G q w) (hC : Kd.C (Kd.int .u8) w A l.length l) (hcap : l.length ≤ c) (hb : ∀ y, y ∈ l → 0 ≤ y ∧ y < 256) (hl : l.length ≤ 10000) (h0 : 0 ≤ x) (h1 : x < l.length) (hq : rd l x = 34) :
  Calls Tryd.prog 40 #[.slice A l.length c, .int .i64 x] w fun e w' => e = .returned (teV (out q (l ++ [0]) .val [] x)) ∧ Below w.heap.size w w' := by
 have hV : ∀ n, Calls Tryd.prog 50 #[.slice A l.length c, .int .i64 x] (w.drewN n) fun e w' => e = .returned (veV l (out q (l ++ [0]) .val [] x)) ∧ Below w.heap.size w w' := fun n => (valueEnd A c l x (w.drewN n) (hG.drewN n) (Kd.C_below hC (pw_below_drewN (Below.refl _ _) n)) hcap hb hl h0 (by omega)).mono fun e w' ⟨h2, h3⟩ => ⟨h2, (pw_below_drewN (Below.refl _ _) n).trans h3⟩
 obtain ⟨ad, rfl, hx⟩ := Kd.at_int hC x h0 h1
 rw [hq] at hx
 have f1 : decide (x < 0) = false := decide_eq_false (by omega)
 cases ho : out q (l ++ [0]) .val [] x with
 | done e =>
  rw [ho] at hV
  have hk : (behK l e != 0) = true := by unfold behK; split <;> (try split) <;> rfl
  have HV : Aside0 (Calls Tryd.prog 50 #[.slice (some ad) l.length c, .int .i64 x] w fun e' w' => e' = .returned (.tuple #[.int .i64 e, .int .i64 (behK l e)]) ∧ Below w.heap.size w w') := ⟨hV 0⟩
  clear hV hC hb hG ho hq
  go_enter Tryd.func40, Tryd.ntmps40
  go_wp2_with fail
  with_reducible refine HV.out.mono ?_
  rintro e w1 ⟨rfl, hb1⟩
  have HB := Aside0.mk hb1
  clear hb1
  go_wp2_with fail
  go_ret2
  exact ⟨rfl, HB.out⟩
 | fault s =>
  rw [ho] at hV
  have HV : Aside0 (Calls Tryd.prog 50 #[.slice (some ad) l.length c, .int .i64 x] w fun e' w' => e' = .returned (.tuple #[.int .i64 0, .int .i64 0]) ∧ Below w.heap.size w w') := ⟨hV 0⟩
  clear hV hC hb hG ho hq
  go_enter Tryd.func40, Tryd.ntmps40
  go_wp2_with fail
  with_reducible refine HV.out.mono ?_
  rintro e w1 ⟨rfl, hb1⟩
  have HB := Aside0.mk hb1
  clear hb1
  go_wp2_with fail
  go_ret2
  exact ⟨rfl, HB.out⟩
end
end Go.Proofs.YtbikiibpjdiaaaaDoor.Err
/- The reference's first fault, as the plain scanner tells it. -/
namespace Go.Proofs.YtbikiibpjdiaaaaDoor.Err
open Go.RowKit Go.Proofs.YtbikiibpjdiaaaaDoorW.PrintWords Go.Proofs.YtbikiibpjdiaaaaDoorW.PrintLast Go.Proofs.YtbikiibpjdiaaaaDoorW.PrintMore
open Go.Proofs.YtbikiibpjdiaaaaDoor.Dig Go.Proofs.YtbikiibpjdiaaaaDoor.Tab Go.Proofs.YtbikiibpjdiaaaaDoor.QL
set_option linter.unusedVariables false
/-- The first fault of bytes: its place, whether they end too soon, its words. -/
def ff (q : ByteArray → ByteArray) : List Int → Ph → List Br → Int → Option (Int × Bool × ByteArray)
 | [], ph, st, i => if wholeB ph st = true then none else match step q 32 ph st with
  | .error m => some (i, true, m.1)
  | .ok _ => some (i, true, endWords)
 | c :: r, ph, st, i => match step q c ph st with
  | .error m => some (i, false, m.1)
  | .ok s => ff q r s.1 s.2 (i + 1)
def ffV : Option (Int × Bool × ByteArray) → Value
 | none => .tuple #[.agg #[.int .i64 0, .bool false, .string ByteArray.empty], .bool false]
 | some (i, e, m) => .tuple #[.agg #[.int .i64 i, .bool e, .string m], .bool true]
theorem ff_at (q : ByteArray → ByteArray) (l : List Int) (ph : Ph) (st : List Br) (i : Nat) (hi : i < l.length) : ff q (l.drop i) ph st i = match step q (rd l i) ph st with
  | .error m => some ((i : Int), false, m.1)
  | .ok s => ff q (l.drop (i + 1)) s.1 s.2 ((i + 1 : Nat) : Int) := by
 rw [List.drop_eq_getElem_cons hi]
 have e : rd l i = l[i] := by
  obtain ⟨_, e⟩ := rd_get l i (by omega) (by omega)
  rw [e]
  rfl
 rw [e]
 rfl
theorem ff_end (q : ByteArray → ByteArray) (l : List Int) (ph : Ph) (st : List Br) (i : Nat) (hi : i = l.length) : ff q (l.drop i) ph st i = if wholeB ph st = true then none else match step q 32 ph st with
  | .error m => some ((i : Int), true, m.1)
  | .ok _ => some ((i : Int), true, endWords) := by
 rw [List.drop_eq_nil_of_le (by omega)]
 rfl
theorem sc_start (w : World) (o : Obj) : SC ((w.alloc o).alloc (.cells #[.int .i64 0, .slice none 0 0, .int .i64 0, .string ByteArray.empty, .int .i64 0, .string ByteArray.empty] 58)) (w.heap.size + 1) .val [] := by
 have h := sc_new (w.alloc o)
 have e : (w.alloc o).heap.size = w.heap.size + 1 := by simp
 rw [e] at h
 exact ⟨0, none, 0, 0, ByteArray.empty, 0, ByteArray.empty, rfl, h⟩
/-- A block of three cells. -/
theorem blk_3 {w : World} {b : Nat} {v0 v1 v2 : Value} {t : TypeId} (h : w.heap[b]? = some (.cells #[v0, v1, v2] t (0, 0))) : w.cell? ⟨b, 0, none⟩ = some v0 ∧ w.cell? ⟨b, 1, none⟩ = some v1 ∧ w.cell? ⟨b, 2, none⟩ = some v2 ∧ w.frozen? ⟨b, 0, none⟩ = false ∧ w.frozen? ⟨b, 1, none⟩ = false ∧ w.frozen? ⟨b, 2, none⟩ = false := by
 refine ⟨?_, ?_, ?_, ?_, ?_, ?_⟩ <;> simp [World.cell?, World.frozen?, h]
section
variable {q : ByteArray → ByteArray} {w0 w : World} {b : Nat} {a d lt : Int} {v : Value} {wd ft : ByteArray} {st : List Br}
set_option maxRecDepth 100000 in
set_option maxHeartbeats 8000000 in
theorem firstFault (A : Option Addr) (c : Nat) (l : List Int) (w : World) (hG : G q w) (hC : Kd.C (Kd.int .u8) w A l.length l) (hcap : l.length ≤ c) (hb : ∀ y, y ∈ l → 0 ≤ y ∧ y < 256) (hl : l.length ≤ 10000) :
  Calls Tryd.prog 27 #[.slice A l.length c] w fun e w' => e = .returned (ffV (ff q l .val [] 0)) ∧ Below w.heap.size w w' := by
 have HC := Aside0.mk hC
 have HG := Aside0.mk hG
 have HBY := Aside0.mk hb
 clear hC hG hb
 go_enter Tryd.func27, Tryd.ntmps27
 go_wp2_with fail
 go_loopg [11] (l.length + 1) (fun kq v11 w' => ∃ (i : Nat) (ph : Ph) (st : List Br), v11 = .int .i64 i ∧ Aside0 (i ≤ l.length ∧ l.length + 1 ≤ i + kq ∧ WF ph st ∧ st.length ≤ i ∧ ff q l .val [] 0 = ff q (l.drop i) ph st i ∧ SC w' (w.heap.size + 1) ph st ∧ w'.heap[w.heap.size]? = some (.cells #[.int .i64 0, .bool false, .string ByteArray.empty] 47 (0, 0)) ∧ Below w.heap.size w w'))
 case atStart =>
  refine ⟨0, .val, [], rfl, by omega, by omega, trivial, by simp, rfl, ?_, ?_, ?_⟩
  ·exact sc_start w (.cells #[.int .i64 0, .bool false, .string ByteArray.empty] 47)
  ·rw [Below.heap_alloc _ _ _ (by simp)]
   exact blk_new w _
  ·exact below_alloc (below_alloc (Below.refl _ _) _) _
 case round =>
  obtain ⟨i, ph, st, rfl, HA⟩ := hrel
  obtain ⟨hi, hk, hwf, hsl, hff, ⟨a, A2, cc, d, wd, lt, ft, hI, hS⟩, hR, hBB⟩ := HA.out
  clear HA
  by_cases hlt : i < l.length
  ·obtain ⟨ad, rfl, hx⟩ := Kd.at_int (Kd.C_below HC.out hBB) i (by omega) (by omega)
   rw [Int.toNat_natCast] at hx
   have hby := HBY.out (rd l i) (by obtain ⟨hh, e⟩ := rd_get l i (by omega) (by omega); rw [e]; exact List.getElem_mem _)
   have hT := sTake (q := q) ph A2 cc (rd l i) hI hwf HG.out hBB (by omega) hS hby.1 hby.2 (by omega)
   have hffs := ff_at q l ph st i hlt
   cases hst : step q (rd l i) ph st with
   | error m =>
    rw [hst] at hT hffs
    have HT := Aside0.mk hT
    have HRES : Aside0 (ff q l .val [] 0 = some ((i : Int), false, m.1)) := ⟨hff.trans hffs⟩
    have HR := Aside0.mk hR
    have HB := Aside0.mk hBB
    clear hT hffs hst hff hI hS hR hBB
    go_wp2_with fail
    with_reducible refine HT.out.mono ?_
    rintro e w1 ⟨rfl, h5, h6⟩
    have hR1 := (h6.block w.heap.size (by omega)).trans HR.out
    obtain ⟨m0, m1, m2, n0, n1, n2⟩ := blk_3 hR1
    have HB1 := Aside0.mk (HB.out.trans (h6.mono (Nat.le_succ _)))
    clear hR1 h6
    go_wp2_with fail
    rw [HRES.out]
    refine bodyPost_ret (v := .tuple #[.agg #[.int .i64 i, .bool false, .string m.1], .bool true]) (by simp [results, Tryd.results27, go_sem, m0, m1, m2]) rfl ⟨rfl, ?_⟩
    exact bset (bset (bset HB1.out (Nat.le_refl _)) (Nat.le_refl _)) (Nat.le_refl _)
   | ok s =>
    rw [hst] at hT hffs
    have hws := wf_step hwf hst
    have HT := Aside0.mk hT
    have HF : Aside0 (ff q l .val [] 0 = ff q (l.drop (i + 1)) s.1 s.2 ((i + 1 : Nat) : Int)) := ⟨hff.trans hffs⟩
    have HWS := Aside0.mk hws
    have HR := Aside0.mk hR
    have HB := Aside0.mk hBB
    clear hT hffs hst hff hI hS hR hBB hws hwf
    obtain _ | g0 := gk
    ·exfalso; omega
    go_wp2_with fail
    with_reducible refine HT.out.mono ?_
    rintro e w1 ⟨rfl, h5, h6⟩
    have HS1 := Aside0.mk h5
    have HR1 := Aside0.mk ((h6.block w.heap.size (by omega)).trans HR.out)
    have HB1 := Aside0.mk (HB.out.trans (h6.mono (Nat.le_succ _)))
    clear h5 h6
    go_wp2_with fail
    go_roundg g0
    case measure => omega
    case rel =>
     refine ⟨i + 1, s.1, s.2, rfl, by omega, by omega, HWS.out.1, by have := HWS.out.2; omega, HF.out, HS1.out, HR1.out, HB1.out⟩
  ·have hil : i = l.length := by omega
   have hfe := hff.trans (ff_end q l ph st i hil)
   have hWh := sWhole ph A2 cc hI hS (by omega)
   by_cases hwb : wholeB ph st = true
   ·rw [hwb] at hWh
    rw [if_pos hwb] at hfe
    have HWh := Aside0.mk hWh
    have HRES := Aside0.mk hfe
    obtain ⟨m0, m1, m2, n0, n1, n2⟩ := blk_3 hR
    have HB1 := Aside0.mk hBB
    clear hWh hfe hff hI hS hR hBB hwb
    go_wp2_with fail
    with_reducible refine HWh.out.mono ?_
    rintro e w1 ⟨rfl, ⟨n, rfl⟩⟩
    go_wp2_with fail
    rw [HRES.out]
    refine bodyPost_ret (v := .tuple #[.agg #[.int .i64 0, .bool false, .string ByteArray.empty], .bool false]) (by simp [results, Tryd.results27, go_sem, m0, m1, m2]; try rfl) rfl ⟨rfl, ?_⟩
    exact bset (bset (bset (pw_below_drewN HB1.out _) (Nat.le_refl _)) (Nat.le_refl _)) (Nat.le_refl _)
   ·have hwf2 : wholeB ph st = false := by simpa using hwb
    rw [hwf2] at hWh
    rw [if_neg hwb] at hfe
    have HT : Aside0 (∀ n, Calls Tryd.prog 33 #[.pointer (some ⟨w.heap.size + 1, 0, none⟩), .int .u8 32] (wr.drewN n) (Went (w.heap.size + 1) (wr.drewN n) (step q 32 ph st))) := ⟨fun n => sTake (q := q) ph A2 cc 32 hI hwf HG.out (pw_below_drewN hBB n) (by omega) (hS.drewN n) (by decide) (by decide) (by omega)⟩
    have HWh := Aside0.mk hWh
    have HRES := Aside0.mk hfe
    have HR := Aside0.mk hR
    have HB := Aside0.mk hBB
    clear hWh hfe hff hI hS hR hBB hwb
    cases hst : step q 32 ph st with
    | error m =>
     have HRES2 : Aside0 (ff q l .val [] 0 = some ((l.length : Int), true, m.1)) := ⟨by have := HRES.out; rw [hst] at this; rw [← hil]; exact this⟩
     have HT2 : Aside0 (∀ n, Calls Tryd.prog 33 #[.pointer (some ⟨w.heap.size + 1, 0, none⟩), .int .u8 32] (wr.drewN n) (Went (w.heap.size + 1) (wr.drewN n) (.error m))) := ⟨by have := HT.out; rw [hst] at this; exact this⟩
     clear hst HT HRES
     go_wp2_with fail
     with_reducible refine HWh.out.mono ?_
     rintro e w1 ⟨rfl, ⟨n, rfl⟩⟩
     go_wp2_with fail
     with_reducible refine (HT2.out _).mono ?_
     rintro e w1 ⟨rfl, h5, h6⟩
     have hR1 := (h6.block w.heap.size (by omega)).trans HR.out
     obtain ⟨m0, m1, m2, n0, n1, n2⟩ := blk_3 hR1
     have HB1 := Aside0.mk ((pw_below_drewN HB.out n).trans (h6.mono (Nat.le_succ _)))
     clear hR1 h6
     go_wp2_with fail
     rw [HRES2.out]
     refine bodyPost_ret (v := .tuple #[.agg #[.int .i64 l.length, .bool true, .string m.1], .bool true]) (by simp [results, Tryd.results27, go_sem, m0, m1, m2]) rfl ⟨rfl, ?_⟩
     exact bset (bset (bset HB1.out (Nat.le_refl _)) (Nat.le_refl _)) (Nat.le_refl _)
    | ok s =>
     have HRES2 : Aside0 (ff q l .val [] 0 = some ((l.length : Int), true, endWords)) := ⟨by have := HRES.out; rw [hst] at this; rw [← hil]; exact this⟩
     have HT2 : Aside0 (∀ n, Calls Tryd.prog 33 #[.pointer (some ⟨w.heap.size + 1, 0, none⟩), .int .u8 32] (wr.drewN n) (Went (w.heap.size + 1) (wr.drewN n) (.ok s))) := ⟨by have := HT.out; rw [hst] at this; exact this⟩
     clear hst HT HRES
     go_wp2_with fail
     with_reducible refine HWh.out.mono ?_
     rintro e w1 ⟨rfl, ⟨n, rfl⟩⟩
     go_wp2_with fail
     with_reducible refine (HT2.out _).mono ?_
     rintro e w1 ⟨rfl, h5, h6⟩
     have hR1 := (h6.block w.heap.size (by omega)).trans HR.out
     obtain ⟨m0, m1, m2, n0, n1, n2⟩ := blk_3 hR1
     have HB1 := Aside0.mk ((pw_below_drewN HB.out n).trans (h6.mono (Nat.le_succ _)))
     clear hR1 h6 h5
     go_wp2_with fail
     rw [HRES2.out]
     refine bodyPost_ret (v := .tuple #[.agg #[.int .i64 l.length, .bool true, .string endWords], .bool true]) (by simp [results, Tryd.results27, go_sem, m0, m1, m2]; rfl) rfl ⟨rfl, ?_⟩
     exact bset (bset (bset HB1.out (Nat.le_refl _)) (Nat.le_refl _)) (Nat.le_refl _)
set_option maxRecDepth 100000 in
set_option maxHeartbeats 8000000 in
theorem isValue (A : Option Addr) (c : Nat) (l : List Int) (w : World) (hG : G q w) (hC : Kd.C (Kd.int .u8) w A l.length l) (hcap : l.length ≤ c) (hb : ∀ y, y ∈ l → 0 ≤ y ∧ y < 256) (hl : l.length ≤ 10000) :
  Calls Tryd.prog 12 #[.slice A l.length c] w fun e w' => e = .returned (.bool (ff q l .val [] 0).isNone) ∧ Below w.heap.size w w' := by
 have HF := Aside0.mk (firstFault A c l w hG hC hcap hb hl)
 clear hG hC hb
 cases hff : ff q l .val [] 0 with
 | none =>
  have HF2 : Aside0 (Calls Tryd.prog 27 #[.slice A l.length c] w fun e w' => e = .returned (.tuple #[.agg #[.int .i64 0, .bool false, .string ByteArray.empty], .bool false]) ∧ Below w.heap.size w w') := ⟨by have := HF.out; rw [hff] at this; exact this⟩
  clear HF hff
  go_enter Tryd.func12, Tryd.ntmps12
  go_wp2_with fail
  with_reducible refine HF2.out.mono ?_
  rintro e w1 ⟨rfl, hb1⟩
  have HB := Aside0.mk hb1
  clear hb1
  go_wp2_with fail
  go_ret
  exact ⟨rfl, below_alloc HB.out _⟩
 | some r =>
  obtain ⟨i, b, m⟩ := r
  have HF2 : Aside0 (Calls Tryd.prog 27 #[.slice A l.length c] w fun e w' => e = .returned (.tuple #[.agg #[.int .i64 i, .bool b, .string m], .bool true]) ∧ Below w.heap.size w w') := ⟨by have := HF.out; rw [hff] at this; exact this⟩
  clear HF hff
  go_enter Tryd.func12, Tryd.ntmps12
  go_wp2_with fail
  with_reducible refine HF2.out.mono ?_
  rintro e w1 ⟨rfl, hb1⟩
  have HB := Aside0.mk hb1
  clear hb1
  go_wp2_with fail
  go_ret
  exact ⟨rfl, below_alloc HB.out _⟩
end
end Go.Proofs.YtbikiibpjdiaaaaDoor.Err
/- The first fault of bytes and what the package tells of a whole input, in plain Lean. -/
namespace Go.Proofs.YtbikiibpjdiaaaaDoor.Err
open Go.RowKit Go.Proofs.YtbikiibpjdiaaaaDoorW.PrintWords Go.Proofs.YtbikiibpjdiaaaaDoorW.PrintLast Go.Proofs.YtbikiibpjdiaaaaDoorW.PrintMore
open Go.Proofs.YtbikiibpjdiaaaaDoor.Dig
set_option linter.unusedVariables false
section
variable {q : ByteArray → ByteArray}
theorem cat_left {a b c : ByteArray} (h : a ++ b = a ++ c) : b = c := by
 have h2 := congrArg ByteArray.data h
 simp only [ByteArray.data_append] at h2
 have h3 : a.data.toList ++ b.data.toList = a.data.toList ++ c.data.toList := by rw [← Array.toList_append, ← Array.toList_append, h2]
 exact ByteArray.ext (Array.toList_inj.1 (List.append_cancel_left h3))
theorem bad_ne {c : Int} {x : ByteArray} (h : x ≠ wValue) : badWords q c x ≠ badWords q c wValue := fun e => h (cat_left e)
theorem lit_ne (l : List Int) (k : Nat) : litWhat q l k ≠ wValue := fun e => by
 have h := congrArg (fun b : ByteArray => b.data[0]?) e
 unfold litWhat at h
 simp [ByteArray.data_append] at h
 rw [Array.getElem?_append_left (by decide)] at h
 exact absurd h (by decide)
/-- A step's fault: a byte that begins no value, or another one. -/
def EF (q : ByteArray → ByteArray) (c : Int) (m : ByteArray × Bool) : Prop := m = (badWords q c wValue, true) ∨ ∃ x, m = (badWords q c x, false) ∧ x ≠ wValue
theorem ef_of {c : Int} {x : ByteArray} {m : ByteArray × Bool} (hx : x ≠ wValue) (h : (Except.error (badWords q c x, false) : Step) = .error m) : EF q c m := by
 cases h
 exact .inr ⟨x, rfl, hx⟩
theorem ef_begin {c : Int} {st : List Br} {m : ByteArray × Bool} (h : begin_ q c st = .error m) : EF q c m := by
 unfold begin_ at h
 repeat' split at h
 all_goals first
  | cases h; done
  | (cases h; exact .inl rfl)
theorem ef_name {c : Int} {st : List Br} {m : ByteArray × Bool} (h : nameOf q c st = .error m) : EF q c m := by
 unfold nameOf at h
 split at h
 ·cases h
 ·exact ef_of (by decide) h
theorem ef_between {c : Int} {ph : Ph} {st : List Br} {m : ByteArray × Bool} (h : between q c ph st = .error m) : EF q c m := by
 unfold between at h
 split at h
 ·cases h
 cases ph <;> simp only at h
 case val => exact ef_begin h
 case item0 =>
  split at h
  ·cases h
  ·exact ef_begin h
 case name0 =>
  split at h
  ·cases h
  ·exact ef_name h
 case name => exact ef_name h
 all_goals
  repeat' split at h
  all_goals first
   | cases h; done
   | exact ef_of (by decide) h
theorem ef_more {c : Int} {ph : Ph} {st : List Br} {x y z : Bool} {m : ByteArray × Bool} (h : numMore q c ph st x y z = .error m) : EF q c m := by
 unfold numMore at h
 repeat' split at h
 all_goals first
  | cases h; done
  | exact ef_between h
theorem ef_step {c : Int} {ph : Ph} {st : List Br} {m : ByteArray × Bool} (h : step q c ph st = .error m) : EF q c m := by
 cases ph
 case text =>
  rw [step_text] at h; repeat' split at h
  all_goals first | cases h; done | exact ef_of (by decide) h
 case esc =>
  rw [step_esc] at h; repeat' split at h
  all_goals first | cases h; done | exact ef_of (by decide) h
 case dig k =>
  rw [step_dig] at h; repeat' split at h
  all_goals first | cases h; done | exact ef_of (by decide) h
 case minus =>
  rw [step_minus] at h; repeat' split at h
  all_goals first | cases h; done | exact ef_of (by decide) h
 case point =>
  rw [step_point] at h; repeat' split at h
  all_goals first | cases h; done | exact ef_of (by decide) h
 case e =>
  rw [step_e] at h; repeat' split at h
  all_goals first | cases h; done | exact ef_of (by decide) h
 case sign =>
  rw [step_sign] at h; repeat' split at h
  all_goals first | cases h; done | exact ef_of (by decide) h
 case word l k =>
  rw [step_word] at h; repeat' split at h
  all_goals first | cases h; done | exact ef_of (lit_ne l k) h
 case zero => exact ef_more h
 case whole => exact ef_more h
 case frac => exact ef_more h
 case exp => exact ef_more h
 all_goals exact ef_between h
/-- Where a step ends a value, nothing is open. -/
theorem all_closed {st : List Br} (h : isAll (closed st).1 = true) : closed st = (.all, []) := by
 match st, h with
 | [], _ => rfl
 | .obj :: r, h => cases h
 | .arr :: r, h => cases h
 | .key :: r, h => cases h
theorem ok_all {s t : Ph × List Br} (h : (Except.ok t : Step) = .ok s) (ht : isAll t.1 = true → t = (.all, [])) (ha : isAll s.1 = true) : s = (.all, []) := by
 cases h
 exact ht ha
theorem all_begin {c : Int} {st : List Br} {s : Ph × List Br} (h : begin_ q c st = .ok s) : isAll s.1 = false := by
 unfold begin_ at h
 repeat' split at h
 all_goals first
  | (cases h; rfl)
  | cases h
theorem all_name {c : Int} {st : List Br} {s : Ph × List Br} (h : nameOf q c st = .ok s) : isAll s.1 = false := by
 unfold nameOf at h
 split at h
 ·cases h; rfl
 ·cases h
theorem all_between {c : Int} {ph : Ph} {st : List Br} {s : Ph × List Br} (hp : isAll ph = true → st = []) (h : between q c ph st = .ok s) (ha : isAll s.1 = true) : s = (.all, []) := by
 unfold between at h
 split at h
 ·refine ok_all h (fun h2 => ?_) ha
  rw [hp h2]
  cases ph <;> first | rfl | cases h2
 cases ph <;> simp only at h
 case val => rw [all_begin h] at ha; cases ha
 case item0 =>
  split at h
  ·exact ok_all h all_closed ha
  ·rw [all_begin h] at ha; cases ha
 case name0 =>
  split at h
  ·exact ok_all h all_closed ha
  ·rw [all_name h] at ha; cases ha
 case name => rw [all_name h] at ha; cases ha
 case colon =>
  split at h
  ·cases h; cases ha
  ·cases h
 case memb =>
  split at h
  ·cases h; cases ha
  split at h
  ·exact ok_all h all_closed ha
  ·cases h
 case item =>
  split at h
  ·cases h; cases ha
  split at h
  ·exact ok_all h all_closed ha
  ·cases h
 all_goals cases h
theorem all_step {c : Int} {ph : Ph} {st : List Br} {s : Ph × List Br} (hp : isAll ph = false) (h : step q c ph st = .ok s) (ha : isAll s.1 = true) : s = (.all, []) := by
 have hmore : ∀ x y z, numMore q c ph st x y z = .ok s → s = (.all, []) := fun x y z h => by
  unfold numMore at h
  split at h
  ·cases h; rw [hp] at ha; cases ha
  split at h
  ·cases h; cases ha
  split at h
  ·cases h; cases ha
  ·exact all_between (fun h2 => by rw [all_closed h2]) h ha
 cases ph
 case text =>
  rw [step_text] at h
  split at h
  ·exact ok_all h all_closed ha
  repeat' split at h
  all_goals first
   | (cases h; cases ha; done)
   | cases h
 case dig k =>
  rw [step_dig] at h
  split at h
  ·cases h
   revert ha
   show isAll (if k + 1 = 4 then .text else .dig (k + 1)) = true → _
   split <;> exact fun h => by cases h
  ·cases h
 case word l k =>
  rw [step_word] at h
  split at h
  ·by_cases hk : k + 1 = l.length
   ·rw [if_pos hk] at h; exact ok_all h all_closed ha
   ·rw [if_neg hk] at h; cases h; cases ha
  ·cases h
 case zero => exact hmore _ _ _ h
 case whole => exact hmore _ _ _ h
 case frac => exact hmore _ _ _ h
 case exp => exact hmore _ _ _ h
 case esc =>
  rw [step_esc] at h; repeat' split at h
  all_goals first | (cases h; cases ha; done) | cases h
 case minus =>
  rw [step_minus] at h; repeat' split at h
  all_goals first | (cases h; cases ha; done) | cases h
 case point =>
  rw [step_point] at h; repeat' split at h
  all_goals first | (cases h; cases ha; done) | cases h
 case e =>
  rw [step_e] at h; repeat' split at h
  all_goals first | (cases h; cases ha; done) | cases h
 case sign =>
  rw [step_sign] at h; repeat' split at h
  all_goals first | (cases h; cases ha; done) | cases h
 case all => cases hp
 all_goals exact all_between (fun h2 => by cases h2) h ha
/-- Where a number may end, a byte that does not go on with it is met as behind a value. -/
theorem step_ender {c : Int} {ph : Ph} {st : List Br} (he : ender ph st = true) : st = [] ∧ (step q c ph st = step q c .all [] ∨ ∃ s, step q c ph st = .ok s ∧ isAll s.1 = false) := by
 unfold ender at he
 rw [Bool.and_eq_true] at he
 have hst : st = [] := by simpa using he.2
 refine ⟨hst, ?_⟩
 subst hst
 have hmore : ∀ x y z, isAll ph = false → (numMore q c ph [] x y z = between q c .all [] ∨ ∃ s, numMore q c ph [] x y z = .ok s ∧ isAll s.1 = false) := fun x y z hp => by
  unfold numMore
  split
  ·exact .inr ⟨_, rfl, hp⟩
  split
  ·exact .inr ⟨_, rfl, rfl⟩
  split
  ·exact .inr ⟨_, rfl, rfl⟩
  ·exact .inl rfl
 cases ph
 case zero => exact hmore _ _ _ rfl
 case whole => exact hmore _ _ _ rfl
 case frac => exact hmore _ _ _ rfl
 case exp => exact hmore _ _ _ rfl
 all_goals exact absurd he.1 (by simp [numFinal])
/-- What a fault of the package says of the first fault of bytes. -/
def FaultIs (q : ByteArray → ByteArray) (l : List Int) (k : Nat) (e : Bool) (m : ByteArray) (s : SE) : Prop :=
 k ≤ l.length ∧ s.msg = m ∧ s.atEnd = e ∧ s.off = (if e = true then (k : Int) else (k : Int) + 1) ∧ (e = true → s.va = 0 ∧ k = l.length) ∧
  (e = false → k < l.length ∧ ((s.va = 0 ∧ m ≠ badWords q (rd l k) wValue) ∨ (s.va = (k : Int) + 1 ∧ m = badWords q (rd l k) wValue)))
/-- The outcome of a value, and the first fault of the bytes from there on. -/
theorem out_ff (l : List Int) : ∀ n : Nat, ∀ i : Nat, ∀ ph st, l.length - i = n → i ≤ l.length → isAll ph = false →
  (∃ d : Nat, out q (l ++ [0]) ph st i = .done d ∧ i ≤ d ∧ d ≤ l.length ∧ ff q (l.drop i) ph st i = ff q (l.drop d) .all [] d) ∨
  (∃ (s : SE) (k : Nat) (e : Bool) (m : ByteArray), out q (l ++ [0]) ph st i = .fault s ∧ ff q (l.drop i) ph st i = some ((k : Int), e, m) ∧ FaultIs q l k e m s) := by
 intro n
 induction n with
 | zero =>
  intro i ph st hn hi ha
  have hil : i = l.length := by omega
  have hlen : (l ++ [(0 : Int)]).length = l.length + 1 := by rw [List.length_append]; rfl
  rw [out_end q (l ++ [0]) ph st (i : Int) (by rw [hlen]; omega) (by omega)]
  have hf := ff_end q l ph st i hil
  by_cases he : ender ph st = true
  ·refine .inl ⟨i, by rw [if_pos he], Nat.le_refl _, hi, ?_⟩
   have hf2 := ff_end q l .all [] i hil
   rw [hf, hf2, if_pos (by unfold wholeB; rw [he]; simp), if_pos (show wholeB .all [] = true from rfl)]
  ·rw [if_neg he]
   rw [if_neg (by unfold wholeB; rw [ha]; simpa using he)] at hf
   unfold endF
   cases hs : step q 32 ph st with
   | error m =>
    rw [hs] at hf
    exact .inr ⟨_, i, true, m.1, rfl, hf, hi, rfl, rfl, rfl, fun _ => ⟨rfl, hil⟩, fun h => by cases h⟩
   | ok s =>
    rw [hs] at hf
    exact .inr ⟨_, i, true, endWords, rfl, hf, hi, rfl, rfl, rfl, fun _ => ⟨rfl, hil⟩, fun h => by cases h⟩
 | succ n ih =>
  intro i ph st hn hi ha
  have hlt : i < l.length := by omega
  have hlen : (l ++ [(0 : Int)]).length = l.length + 1 := by rw [List.length_append]; rfl
  rw [out_at q (l ++ [0]) ph st (i : Int) (by omega) (by omega), rd_out l i hlt]
  have hf := ff_at q l ph st i hlt
  cases hs : step q (rd l i) ph st with
  | error m =>
   rw [hs] at hf
   dsimp only at hf ⊢
   by_cases he : ender ph st = true
   ·refine .inl ⟨i, by rw [if_pos he], Nat.le_refl _, hi, ?_⟩
    have hf2 := ff_at q l .all [] i hlt
    obtain ⟨rfl, h2 | ⟨s, h2, _⟩⟩ := step_ender (q := q) (c := rd l i) he
    ·rw [← h2, hs] at hf2
     rw [hf, hf2]
    ·rw [hs] at h2; cases h2
   ·rw [if_neg he]
    refine .inr ⟨_, i, false, m.1, rfl, hf, hi, rfl, rfl, rfl, (fun h => by cases h), fun _ => ⟨hlt, ?_⟩⟩
    rcases ef_step hs with rfl | ⟨x, rfl, hx⟩
    ·exact .inr ⟨rfl, rfl⟩
    ·exact .inl ⟨rfl, bad_ne hx⟩
  | ok s =>
   rw [hs] at hf
   dsimp only at hf ⊢
   by_cases hal : isAll s.1 = true
   ·rw [if_pos hal]
    have hse := all_step ha hs hal
    by_cases he : ender ph st = true
    ·refine .inl ⟨i, by rw [if_pos he], Nat.le_refl _, hi, ?_⟩
     have hf2 := ff_at q l .all [] i hlt
     obtain ⟨rfl, h2 | ⟨s', h2, h3⟩⟩ := step_ender (q := q) (c := rd l i) he
     ·rw [← h2, hs] at hf2
      rw [hf, hf2]
     ·rw [hs] at h2
      cases h2
      rw [hal] at h3
      cases h3
    ·refine .inl ⟨i + 1, by rw [if_neg he]; rfl, Nat.le_succ _, hlt, ?_⟩
     rw [hf, hse]
   ·rw [if_neg hal]
    rcases ih (i + 1) s.1 s.2 (by omega) hlt (by simpa using hal) with ⟨d, h1, h2, h3, h4⟩ | ⟨s', k, e, m, h1, h2, h3⟩
    ·exact .inl ⟨d, h1, by omega, h3, by rw [hf, h4]⟩
    ·exact .inr ⟨s', k, e, m, h1, by rw [hf, h2], h3⟩
/-- Behind a value. -/
theorem all_ff (l : List Int) (j : Nat) : ∀ n : Nat, ∀ d : Nat, j - d = n → RunTo isBlank (l ++ [0]) d j → ff q (l.drop d) .all [] d = if j = l.length then none else some ((j : Int), false, badWords q (rd l j) wAfterTop) := by
 have hlen : (l ++ [(0 : Int)]).length = l.length + 1 := by rw [List.length_append]; rfl
 intro n
 induction n with
 | zero =>
  intro d hn hr
  have hd : d = j := by have := hr.le; omega
  subst hd
  have hlt := hr.lt
  by_cases h : d = l.length
  ·rw [if_pos h, ff_end q l .all [] d h, if_pos (show wholeB .all [] = true from rfl)]
  ·rw [if_neg h, ff_at q l .all [] d (by omega)]
   have hb : ¬ isBlank (rd l d) := by have := hr.stop; rw [rd_out l d (by omega)] at this; exact this
   have e : step q (rd l d) .all [] = .error (badWords q (rd l d) wAfterTop, false) := by
    show between q (rd l d) .all [] = _
    unfold between
    rw [if_neg hb]
   rw [e]
 | succ n ih =>
  intro d hn hr
  have hlt := hr.lt
  have hb : isBlank (rd l d) := by have := hr.all d (Int.le_refl _) (by omega); rw [rd_out l d (by omega)] at this; exact this
  rw [ff_at q l .all [] d (by omega)]
  have e : step q (rd l d) .all [] = .ok (.all, []) := by
   show between q (rd l d) .all [] = _
   unfold between
   rw [if_pos hb]
  rw [e]
  exact ih (d + 1) (by omega) ⟨by omega, hr.lt, fun k h1 h2 => hr.all k (by omega) h2, hr.stop⟩
/-- What the package tells of a whole input. -/
def InsR (q : ByteArray → ByteArray) (L : List Int) (r : Option SE) : Prop :=
 ∃ x : Int, RunTo isBlank L 0 x ∧ ((∃ s, out q L .val [] x = .fault s ∧ r = some s) ∨
  ∃ d j : Int, out q L .val [] x = .done d ∧ 0 ≤ d ∧ RunTo isBlank L d j ∧ r = if j = (L.length : Int) - 1 then none else some (faultAt q L j 5))
theorem ins_ff {l : List Int} {r : Option SE} (hT : Txt (l ++ [0])) (h : InsR q (l ++ [0]) r) :
  (ff q l .val [] 0 = none ∧ r = none) ∨ ∃ (k : Nat) (e : Bool) (m : ByteArray) (s : SE), ff q l .val [] 0 = some ((k : Int), e, m) ∧ r = some s ∧ FaultIs q l k e m s := by
 have hlen : (l ++ [(0 : Int)]).length = l.length + 1 := by rw [List.length_append]; rfl
 obtain ⟨x, hr, h⟩ := h
 have hws := ws_out (q := q) hT (ph := .val) rfl (Int.le_refl 0) hr []
 have hff := out_ff (q := q) l (l.length - 0) 0 .val [] rfl (Nat.zero_le _) rfl
 rw [show ((0 : Nat) : Int) = 0 from rfl, hws, List.drop_zero] at hff
 rcases h with ⟨s, ho, rfl⟩ | ⟨d, j, ho, hd0, hrun, rfl⟩
 ·rcases hff with ⟨d, h1, _⟩ | ⟨s', k, e, m, h1, h2, h3⟩
  ·rw [ho] at h1; cases h1
  ·rw [ho] at h1
   cases h1
   exact .inr ⟨k, e, m, s, h2, rfl, h3⟩
 ·rcases hff with ⟨d', h1, h2, h3, h4⟩ | ⟨s', k, e, m, h1, _⟩
  ·rw [ho] at h1
   cases h1
   obtain ⟨j, rfl⟩ := Int.eq_ofNat_of_zero_le (show 0 ≤ j by have := hrun.le; omega)
   have hall := all_ff (q := q) l j (j - d') d' rfl hrun
   have hlt := hrun.lt
   rw [h4, hall]
   by_cases hj : j = l.length
   ·refine .inl ⟨by rw [if_pos hj], by rw [if_pos (by rw [hlen]; omega)]⟩
   ·refine .inr ⟨j, false, _, _, by rw [if_neg hj], by rw [if_neg (by rw [hlen]; omega)], by omega, ?_⟩
    have e : faultAt q (l ++ [0]) (j : Int) 5 = ⟨badWords q (rd l j) wAfterTop, (j : Int) + 1, false, 0⟩ := by
     unfold faultAt
     rw [if_neg (by rw [hlen]; omega), rd_out l j (by omega)]
     rfl
    rw [e]
    exact ⟨rfl, rfl, rfl, (fun h => by cases h), fun _ => ⟨by omega, .inl ⟨rfl, bad_ne (x := wAfterTop) (by decide)⟩⟩⟩
  ·rw [ho] at h1; cases h1
end
end Go.Proofs.YtbikiibpjdiaaaaDoor.Err
