/- skipGrammar's frame, and what holds at its labels. -/
import Derived.Test.YtfkagnpdapkaaaaDoorScF
namespace Go.Proofs.YtfkagnpdapkaaaaDoor.Err
open Go.RowKit Go.Proofs.YtfkagnpdapkaaaaDoorW.PrintWords Go.Proofs.YtfkagnpdapkaaaaDoorW.PrintLast Go.Proofs.YtfkagnpdapkaaaaDoorW.PrintMore
open Go.Proofs.YtfkagnpdapkaaaaDoor.Tab Go.Proofs.YtfkagnpdapkaaaaDoor.QF
set_option linter.unusedVariables false
set_option maxRecDepth 100000 in
/-- An array of 436 values, written out. -/
theorem lit436 (A : Array Value) (h : A.size = 436) : ∃ f : Nat → Value, A = #[f 0, f 1, f 2, f 3, f 4, f 5, f 6, f 7, f 8, f 9, f 10, f 11, f 12, f 13, f 14, f 15, f 16, f 17, f 18, f 19, f 20, f 21, f 22, f 23, f 24, f 25, f 26, f 27, f 28, f 29, f 30, f 31, f 32, f 33, f 34, f 35, f 36, f 37, f 38, f 39, f 40, f 41, f 42, f 43, f 44, f 45, f 46, f 47, f 48, f 49, f 50, f 51, f 52, f 53, f 54, f 55, f 56, f 57, f 58, f 59, f 60, f 61, f 62, f 63, f 64, f 65, f 66, f 67, f 68, f 69, f 70, f 71, f 72, f 73, f 74, f 75, f 76, f 77, f 78, f 79, f 80, f 81, f 82, f 83, f 84, f 85, f 86, f 87, f 88, f 89, f 90, f 91, f 92, f 93, f 94, f 95, f 96, f 97, f 98, f 99, f 100, f 101, f 102, f 103, f 104, f 105, f 106, f 107, f 108, f 109, f 110, f 111, f 112, f 113, f 114, f 115, f 116, f 117, f 118, f 119, f 120, f 121, f 122, f 123, f 124, f 125, f 126, f 127, f 128, f 129, f 130, f 131, f 132, f 133, f 134, f 135, f 136, f 137, f 138, f 139, f 140, f 141, f 142, f 143, f 144, f 145, f 146, f 147, f 148, f 149, f 150, f 151, f 152, f 153, f 154, f 155, f 156, f 157, f 158, f 159, f 160, f 161, f 162, f 163, f 164, f 165, f 166, f 167, f 168, f 169, f 170, f 171, f 172, f 173, f 174, f 175, f 176, f 177, f 178, f 179, f 180, f 181, f 182, f 183, f 184, f 185, f 186, f 187, f 188, f 189, f 190, f 191, f 192, f 193, f 194, f 195, f 196, f 197, f 198, f 199, f 200, f 201, f 202, f 203, f 204, f 205, f 206, f 207, f 208, f 209, f 210, f 211, f 212, f 213, f 214, f 215, f 216, f 217, f 218, f 219, f 220, f 221, f 222, f 223, f 224, f 225, f 226, f 227, f 228, f 229, f 230, f 231, f 232, f 233, f 234, f 235, f 236, f 237, f 238, f 239, f 240, f 241, f 242, f 243, f 244, f 245, f 246, f 247, f 248, f 249, f 250, f 251, f 252, f 253, f 254, f 255, f 256, f 257, f 258, f 259, f 260, f 261, f 262, f 263, f 264, f 265, f 266, f 267, f 268, f 269, f 270, f 271, f 272, f 273, f 274, f 275, f 276, f 277, f 278, f 279, f 280, f 281, f 282, f 283, f 284, f 285, f 286, f 287, f 288, f 289, f 290, f 291, f 292, f 293, f 294, f 295, f 296, f 297, f 298, f 299, f 300, f 301, f 302, f 303, f 304, f 305, f 306, f 307, f 308, f 309, f 310, f 311, f 312, f 313, f 314, f 315, f 316, f 317, f 318, f 319, f 320, f 321, f 322, f 323, f 324, f 325, f 326, f 327, f 328, f 329, f 330, f 331, f 332, f 333, f 334, f 335, f 336, f 337, f 338, f 339, f 340, f 341, f 342, f 343, f 344, f 345, f 346, f 347, f 348, f 349, f 350, f 351, f 352, f 353, f 354, f 355, f 356, f 357, f 358, f 359, f 360, f 361, f 362, f 363, f 364, f 365, f 366, f 367, f 368, f 369, f 370, f 371, f 372, f 373, f 374, f 375, f 376, f 377, f 378, f 379, f 380, f 381, f 382, f 383, f 384, f 385, f 386, f 387, f 388, f 389, f 390, f 391, f 392, f 393, f 394, f 395, f 396, f 397, f 398, f 399, f 400, f 401, f 402, f 403, f 404, f 405, f 406, f 407, f 408, f 409, f 410, f 411, f 412, f 413, f 414, f 415, f 416, f 417, f 418, f 419, f 420, f 421, f 422, f 423, f 424, f 425, f 426, f 427, f 428, f 429, f 430, f 431, f 432, f 433, f 434, f 435] ∧ ∀ i, A.getD i undef = f i := by
  refine ⟨fun i => A.getD i undef, ?_, fun i => rfl⟩
  have hl := list_range 436 A.toList (by simpa using h)
  obtain ⟨l⟩ := A
  have e : l = (List.range 436).map fun i => l.getD i undef := hl
  have e2 : ∀ i, (Array.mk l).getD i undef = l.getD i undef := fun i => by simp [Array.getD_eq_getD_getElem?, List.getD_eq_getElem?_getD]
  simp only [e2]
  apply congrArg Array.mk
  exact e
/-- What every frame holds. -/
structure FrG (ad : Addr) (c : Nat) (L : List Int) (nn : Int) (w0 : World) (a : Act) (w : World) : Prop where
  defers : a.defers = []
  size : a.tmps.size = 436
  s0 : a.tmps.getD 0 undef = .slice (some ad) L.length c
  s14 : a.tmps.getD 14 undef = .int .i64 (10000 - nn)
  s15 : a.tmps.getD 15 undef = .int .i64 L.length
  s16 : a.tmps.getD 16 undef = .slice (some ad) L.length c
  below : Below w0.heap.size w0 w
/-- A frame and what holds of its cursor, level, kinds and deeper kinds. -/
def GS (ad : Addr) (c : Nat) (L : List Int) (nn : Int) (w0 : World) (P : Int → Int → Int → List Int → Prop) (a : Act) (w : World) : Prop :=
  FrG ad c L nn w0 a w ∧ ∃ x lev obj v D, a.tmps.getD 1 undef = .int .i64 x ∧ a.tmps.getD 3 undef = .int .i64 lev ∧ a.tmps.getD 4 undef = .int .u64 obj ∧ a.tmps.getD 17 undef = v ∧ Row w0 w v D ∧ P x lev obj D
set_option maxRecDepth 100000 in
theorem gs_open {ad : Addr} {c : Nat} {L : List Int} {nn : Int} {w0 : World} {P : Int → Int → Int → List Int → Prop} {a : Act} {w : World} (h : GS ad c L nn w0 P a w) :
    ∃ (f : Nat → Value) (x lev obj : Int) (v : Value) (D : List Int), a = ⟨#[.slice (some ad) L.length c, .int .i64 x, f 2, .int .i64 lev, .int .u64 obj, f 5, f 6, f 7, f 8, f 9, f 10, f 11, f 12, f 13, .int .i64 (10000 - nn), .int .i64 L.length, .slice (some ad) L.length c, v, f 18, f 19, f 20, f 21, f 22, f 23, f 24, f 25, f 26, f 27, f 28, f 29, f 30, f 31, f 32, f 33, f 34, f 35, f 36, f 37, f 38, f 39, f 40, f 41, f 42, f 43, f 44, f 45, f 46, f 47, f 48, f 49, f 50, f 51, f 52, f 53, f 54, f 55, f 56, f 57, f 58, f 59, f 60, f 61, f 62, f 63, f 64, f 65, f 66, f 67, f 68, f 69, f 70, f 71, f 72, f 73, f 74, f 75, f 76, f 77, f 78, f 79, f 80, f 81, f 82, f 83, f 84, f 85, f 86, f 87, f 88, f 89, f 90, f 91, f 92, f 93, f 94, f 95, f 96, f 97, f 98, f 99, f 100, f 101, f 102, f 103, f 104, f 105, f 106, f 107, f 108, f 109, f 110, f 111, f 112, f 113, f 114, f 115, f 116, f 117, f 118, f 119, f 120, f 121, f 122, f 123, f 124, f 125, f 126, f 127, f 128, f 129, f 130, f 131, f 132, f 133, f 134, f 135, f 136, f 137, f 138, f 139, f 140, f 141, f 142, f 143, f 144, f 145, f 146, f 147, f 148, f 149, f 150, f 151, f 152, f 153, f 154, f 155, f 156, f 157, f 158, f 159, f 160, f 161, f 162, f 163, f 164, f 165, f 166, f 167, f 168, f 169, f 170, f 171, f 172, f 173, f 174, f 175, f 176, f 177, f 178, f 179, f 180, f 181, f 182, f 183, f 184, f 185, f 186, f 187, f 188, f 189, f 190, f 191, f 192, f 193, f 194, f 195, f 196, f 197, f 198, f 199, f 200, f 201, f 202, f 203, f 204, f 205, f 206, f 207, f 208, f 209, f 210, f 211, f 212, f 213, f 214, f 215, f 216, f 217, f 218, f 219, f 220, f 221, f 222, f 223, f 224, f 225, f 226, f 227, f 228, f 229, f 230, f 231, f 232, f 233, f 234, f 235, f 236, f 237, f 238, f 239, f 240, f 241, f 242, f 243, f 244, f 245, f 246, f 247, f 248, f 249, f 250, f 251, f 252, f 253, f 254, f 255, f 256, f 257, f 258, f 259, f 260, f 261, f 262, f 263, f 264, f 265, f 266, f 267, f 268, f 269, f 270, f 271, f 272, f 273, f 274, f 275, f 276, f 277, f 278, f 279, f 280, f 281, f 282, f 283, f 284, f 285, f 286, f 287, f 288, f 289, f 290, f 291, f 292, f 293, f 294, f 295, f 296, f 297, f 298, f 299, f 300, f 301, f 302, f 303, f 304, f 305, f 306, f 307, f 308, f 309, f 310, f 311, f 312, f 313, f 314, f 315, f 316, f 317, f 318, f 319, f 320, f 321, f 322, f 323, f 324, f 325, f 326, f 327, f 328, f 329, f 330, f 331, f 332, f 333, f 334, f 335, f 336, f 337, f 338, f 339, f 340, f 341, f 342, f 343, f 344, f 345, f 346, f 347, f 348, f 349, f 350, f 351, f 352, f 353, f 354, f 355, f 356, f 357, f 358, f 359, f 360, f 361, f 362, f 363, f 364, f 365, f 366, f 367, f 368, f 369, f 370, f 371, f 372, f 373, f 374, f 375, f 376, f 377, f 378, f 379, f 380, f 381, f 382, f 383, f 384, f 385, f 386, f 387, f 388, f 389, f 390, f 391, f 392, f 393, f 394, f 395, f 396, f 397, f 398, f 399, f 400, f 401, f 402, f 403, f 404, f 405, f 406, f 407, f 408, f 409, f 410, f 411, f 412, f 413, f 414, f 415, f 416, f 417, f 418, f 419, f 420, f 421, f 422, f 423, f 424, f 425, f 426, f 427, f 428, f 429, f 430, f 431, f 432, f 433, f 434, f 435], []⟩ ∧ Below w0.heap.size w0 w ∧ Row w0 w v D ∧ P x lev obj D := by
  obtain ⟨hF, x, lev, obj, v, D, h1, h3, h4, h17, hR, hP⟩ := h
  obtain ⟨A, D'⟩ := a
  obtain ⟨hd, hs, h0, h14, h15, h16, hb⟩ := hF
  obtain rfl : D' = [] := hd
  obtain ⟨f, rfl, hf⟩ := lit436 A hs
  rw [hf] at h0 h1 h3 h4 h14 h15 h16 h17
  refine ⟨f, x, lev, obj, v, D, ?_, hb, hR, hP⟩
  rw [h0, h1, h3, h4, h14, h15, h16, h17]
/-- What holds at a label. -/
def LabG (q : ByteArray → ByteArray) (L : List Int) (O : Out) (x : Int) (st : List Br) : Nat → Prop
  | 0 => contO q L st x = O
  | 1 => out q L .val st x = O
  | 2 => (∃ r, st = .obj :: r) ∧ out q L .name st x = O ∧ ¬ isBlank (rd L x)
  | 3 => (∃ r, st = .obj :: r) ∧ out q L .colon st x = O
  | _ => False
/-- At label l, n bytes ahead of the end. -/
def JG (q : ByteArray → ByteArray) (ad : Addr) (c : Nat) (L : List Int) (nn : Int) (O : Out) (w0 : World) (n l : Nat) (a : Act) (w : World) : Prop :=
  GS ad c L nn w0 (fun x lev obj D => ∃ st, 0 ≤ x ∧ x < L.length ∧ lev ≤ x ∧ RepD lev obj D st ∧ D.length ≤ 1000 ∧ L.length - x = n ∧ LabG q L O x st l) a w
/-- At the end. -/
def RG (O : Out) (w0 : World) (a : Act) (w : World) : Prop :=
  a.defers = [] ∧ Below w0.heap.size w0 w ∧ ((∃ d, O = .done d ∧ a.tmps.getD 12 undef = .int .i64 d ∧ a.tmps.getD 13 undef = .nilIface) ∨ ∃ s v, O = .fault s ∧ EV w v s ∧ a.tmps.getD 12 undef = .int .i64 0 ∧ a.tmps.getD 13 undef = v)
set_option maxRecDepth 100000 in
set_option maxHeartbeats 8000000 in
theorem gpass3 (q : ByteArray → ByteArray) (ad : Addr) (c : Nat) (L : List Int) (nn : Int) (O : Out) (w0 : World) (hG : G q w0) (hB : Buf w0 ad c L) (hnn : nn + L.length - 1 ≤ 10000) (hn0 : -1 ≤ nn) (Y : Code) (hY : findLabel (scopeOf Tryd.f88) 3 = some (Code.skip.seq Y)) (n : Nat) (a : Act) (w : World) (Q : Exit → Act → World → Prop)
    (hJ : JG q ad c L nn O w0 n 3 a w) (hQ : ∀ l a' w', (∃ n', n' < n ∧ JG q ad c L nn O w0 n' l a' w') → Q (.goto l) a' w') (hR : ∀ a' w', RG O w0 a' w' → Q .ret a' w') : Y.wp Tryd.prog Q a w := by
  have e : some (Code.skip.seq _) = some (Code.skip.seq Y) := hY
  cases e
  clear hY
  obtain ⟨f, x, lev, obj, v, D, rfl, hbw, hrow, st, hx0, hx1, hlx, hrep, hdl, hn, hlab⟩ := gs_open hJ
  clear hJ
  have hlen0 : lev = st.length := hrep.len
  have hlev0 : 0 ≤ lev := by omega
  clear hlen0
  have HQ := Aside0.mk hQ
  have HR := Aside0.mk hR
  have HREP := Aside0.mk hrep
  have HL := Aside0.mk hlab
  have HN := Aside0.mk hn
  have HT := Aside0.mk hB.txt
  have HB := Aside0.mk hB
  have HG := Aside0.mk hG
  have HGL := Aside0.mk hG.tab
  have HBW := Aside0.mk hbw
  have HROW := Aside0.mk hrow
  have hsm := hB.small
  clear hQ hR hrep hlab hB hG hn hbw hrow
  obtain ⟨r, rfl⟩ := HL.out.1
  go_wp2_with fail
  go_loopg [1] (L.length) (fun kq v1 w' => ∃ (z : Int), v1 = .int .i64 z ∧ Aside0 (x ≤ z ∧ z < L.length ∧ (∀ k, x ≤ k → k < z → isBlank (rd L k)) ∧ (L.length : Int) ≤ z + kq) ∧ Drawn0 w w')
  case atStart => exact ⟨x, rfl, ⟨Int.le_refl _, by omega, fun k h1 h2 => by omega, by omega⟩, by repeat (first | exact Drawn0.refl _ | apply Drawn0.step)⟩
  case round =>
    obtain ⟨z, rfl, HA, ⟨m2, rfl⟩⟩ := hrel
    obtain ⟨hz0, hz1, hz2, hz3⟩ := HA.out
    clear HA
    have HZ2 := Aside0.mk hz2
    clear hz2
    by_cases cbl : isBlank (rd L z)
    · have hin := HT.out.inside (x := z) (by omega) hz1 (by unfold isBlank at cbl; omega)
      have hcall := fun W => white (rd L z) W
      rw [decide_eq_true cbl] at hcall
      have HC := Aside0.mk hcall
      have HCB := Aside0.mk cbl
      clear cbl hcall
      obtain _ | g0 := gk
      · exfalso; omega
      go_wp2_with fail
      with_reducible refine (char_ (HB.out.below ?e1) (z) (by omega) (by omega)).mono ?_
      case e1 => exact (by repeat (first | exact HBW.out | apply pw_below_drewN))
      rintro e w1 ⟨rfl, ⟨m1, rfl⟩⟩
      go_wp2_with fail
      with_reducible refine (HC.out _).mono ?_
      rintro e w2 ⟨rfl, ⟨m3, rfl⟩⟩
      go_wp2_with fail
      go_roundg g0
      case measure => omega
      case rel => exact ⟨z + 1, rfl, ⟨by omega, by omega, fun k h1 h2 => if hk : k = z then by rw [hk]; exact HCB.out else HZ2.out k h1 (by omega), by omega⟩, by repeat (first | exact Drawn0.refl _ | apply Drawn0.step)⟩
    · have hcall := fun W => white (rd L z) W
      rw [decide_eq_false cbl] at hcall
      have HC := Aside0.mk hcall
      have HZR := Aside0.mk (show RunTo isBlank L (x) z from ⟨hz0, hz1, HZ2.out, cbl⟩)
      clear cbl hcall HZ2
      go_wp2_with fail
      with_reducible refine (char_ (HB.out.below ?e2) (z) (by omega) (by omega)).mono ?_
      case e2 => exact (by repeat (first | exact HBW.out | apply pw_below_drewN))
      rintro e w1 ⟨rfl, ⟨m1, rfl⟩⟩
      go_wp2_with fail
      with_reducible refine (HC.out _).mono ?_
      rintro e w2 ⟨rfl, ⟨m3, rfl⟩⟩
      have HO := Aside0.mk ((ws_out (q := q) (ph := .colon) HT.out rfl (by omega) HZR.out _).symm.trans HL.out.2)
      have hzl := HZR.out.le
      by_cases cc : rd L z = 58
      · have hin := HT.out.inside (x := z) (by omega) (by omega) (by omega)
        have HO2 := Aside0.mk ((air_ok (q := q) (ph := .colon) (ph' := .val) (st := .obj :: r) (st' := .obj :: r) HT.out rfl (by omega) hin (by rw [cc]; rfl) rfl).symm.trans HO.out)
        go_wp2_with fail
        with_reducible refine (char_ (HB.out.below ?e3) (z) (by omega) (by omega)).mono ?_
        case e3 => exact (by repeat (first | exact HBW.out | apply pw_below_drewN))
        rintro e w1 ⟨rfl, ⟨m1, rfl⟩⟩
        rw [cc]
        clear cc
        go_wp2_with fail
        exact wp_goto (HQ.out _ _ _ ⟨(L.length - (z + 1)).toNat, by have := HN.out; omega, ⟨⟨rfl, rfl, rfl, rfl, rfl, rfl, (by repeat (first | exact HBW.out | apply pw_below_drewN))⟩, (z + 1), lev, obj, _, _, rfl, rfl, rfl, rfl, (HROW.out.below (pw_below_drewN (Below.refl _ _) _)), _, by omega, by omega, by omega, HREP.out, hdl, by omega, HO2.out⟩⟩)
      · have f1 : (rd L z == 58) = false := beq_eq_false_iff_ne.mpr cc
        have f2 : (rd L z != 58) = true := bne_iff_ne.mpr cc
        have HBD := Aside0.mk (HO.out.symm.trans (air_bad (q := q) (ph := .colon) (st := .obj :: r) 2 false HT.out rfl (by omega) (by omega) (by unfold between; rw [if_neg HZR.out.stop]; show (if rd L z = 58 then _ else _) = _; rw [if_neg cc]; rfl) ⟨fun h => (Bool.false_ne_true h).elim, fun h => by omega⟩))
        go_wp2_with fail
        with_reducible refine (char_ (HB.out.below ?e4) (z) (by omega) (by omega)).mono ?_
        case e4 => exact (by repeat (first | exact HBW.out | apply pw_below_drewN))
        rintro e w1 ⟨rfl, ⟨m1, rfl⟩⟩
        clear cc
        go_wp2_with fail
        with_reducible refine (syntaxErrorAt q ad c L (z) 2 _ (HG.out.below ?c5) (HB.out.below ?d5) (by omega) (by omega)).mono ?_
        case c5 => exact (by repeat (first | exact HBW.out | apply pw_below_drewN))
        case d5 => exact (by repeat (first | exact HBW.out | apply pw_below_drewN))
        rintro e w2 ⟨v2, rfl, hv, hb⟩
        have HV := Aside0.mk hv
        have HB2 := Aside0.mk (show Below w0.heap.size w0 w2 from below_step (by repeat (first | exact HBW.out | apply pw_below_drewN)) hb)
        clear hv hb
        go_wp2_with fail
        exact HR.out _ _ ⟨rfl, HB2.out, .inr ⟨_, v2, HBD.out, HV.out, rfl, rfl⟩⟩
set_option maxRecDepth 100000 in
set_option maxHeartbeats 8000000 in
theorem gpass2 (q : ByteArray → ByteArray) (ad : Addr) (c : Nat) (L : List Int) (nn : Int) (O : Out) (w0 : World) (hG : G q w0) (hB : Buf w0 ad c L) (hnn : nn + L.length - 1 ≤ 10000) (hn0 : -1 ≤ nn) (Y : Code) (hY : findLabel (scopeOf Tryd.f88) 2 = some (Code.skip.seq Y)) (n : Nat) (a : Act) (w : World) (Q : Exit → Act → World → Prop)
    (hJ : JG q ad c L nn O w0 n 2 a w) (hQ : ∀ l a' w', (∃ n', n' < n ∧ JG q ad c L nn O w0 n' l a' w') → Q (.goto l) a' w') (hR : ∀ a' w', RG O w0 a' w' → Q .ret a' w') : Y.wp Tryd.prog Q a w := by
  have e : some (Code.skip.seq _) = some (Code.skip.seq Y) := hY
  cases e
  clear hY
  obtain ⟨f, x, lev, obj, v, D, rfl, hbw, hrow, st, hx0, hx1, hlx, hrep, hdl, hn, hlab⟩ := gs_open hJ
  clear hJ
  have hlen0 : lev = st.length := hrep.len
  have hlev0 : 0 ≤ lev := by omega
  clear hlen0
  have HQ := Aside0.mk hQ
  have HR := Aside0.mk hR
  have HREP := Aside0.mk hrep
  have HL := Aside0.mk hlab
  have HN := Aside0.mk hn
  have HT := Aside0.mk hB.txt
  have HB := Aside0.mk hB
  have HG := Aside0.mk hG
  have HGL := Aside0.mk hG.tab
  have HBW := Aside0.mk hbw
  have HROW := Aside0.mk hrow
  have hsm := hB.small
  clear hQ hR hrep hlab hB hG hn hbw hrow
  obtain ⟨r, rfl⟩ := HL.out.1
  have HO := Aside0.mk HL.out.2.1
  have HNB := Aside0.mk HL.out.2.2
  clear HL
  go_wp2_with fail
  with_reducible refine (char_ (HB.out.below ?e6) (x) (by omega) (by omega)).mono ?_
  case e6 => exact (by repeat (first | exact HBW.out | apply pw_below_drewN))
  rintro e w1 ⟨rfl, ⟨m1, rfl⟩⟩
  by_cases cq : rd L x = 34
  · have hin := HT.out.inside (x := x) (by omega) hx1 (by omega)
    have HO2 := Aside0.mk ((air_ok (q := q) (ph := .name) (ph' := .text) (st := .obj :: r) (st' := .key :: r) HT.out rfl (by omega) hin (by rw [cq]; rfl) rfl).symm.trans HO.out)
    have HX34 := Aside0.mk cq
    rw [cq]
    clear cq HO HNB
    go_wp2_with fail
    go_loopg [1, 33] (L.length) (fun kq v1 v2 w' => ∃ (p : Int), v1 = .int .i64 x ∧ v2 = .int .i64 p ∧ Aside0 (x + 1 ≤ p ∧ p ≤ L.length ∧ (∀ k, x + 1 ≤ k → k < p → Plain (rd L k)) ∧ (L.length : Int) ≤ p + kq) ∧ Drawn0 w w')
    case atStart => exact ⟨x + 1, rfl, rfl, ⟨Int.le_refl _, by omega, fun k h1 h2 => by omega, by omega⟩, by repeat (first | exact Drawn0.refl _ | apply Drawn0.step)⟩
    case round =>
      obtain ⟨p, rfl, rfl, HA, ⟨m2, rfl⟩⟩ := hrel
      obtain ⟨hp0, hp1, hp2, hp3⟩ := HA.out
      clear HA
      have HP2 := Aside0.mk hp2
      clear hp2
      by_cases c8 : p + 8 ≤ L.length
      · obtain ⟨W, S, hW, hS, hor⟩ := word_at HT.out p (by omega) c8
        have HW := Aside0.mk hW
        have HS := Aside0.mk hS
        clear hW hS
        rcases hor with ⟨rfl, hpl⟩ | ⟨hS0, j, hj0, hj8, htz, hpl, hsp⟩
        · have HPL := Aside0.mk hpl
          clear hpl
          obtain _ | g0 := gk
          · exfalso; omega
          go_wp2_with fail
          with_reducible refine (gojson_load64.calls (some ad) c L p W _ (HB.out.below ?e7).C HB.out.cap HW.out).mono ?_
          case e7 => exact (by repeat (first | exact HBW.out | apply pw_below_drewN))
          rintro e w2 ⟨rfl, ⟨m3, rfl⟩⟩
          go_wp2_with fail
          with_reducible refine (gojson_keyEndBytes.calls W 0 _ HS.out).mono ?_
          rintro e w2 ⟨rfl, ⟨m4, rfl⟩⟩
          go_wp2_with fail
          go_roundg g0
          case measure => omega
          case rel => exact ⟨p + 8, rfl, rfl, ⟨by omega, c8, fun k h1 h2 => if h : k < p then HP2.out k h1 h else HPL.out k (by omega) h2, by omega⟩, by repeat (first | exact Drawn0.refl _ | apply Drawn0.step)⟩
        · have HPL := Aside0.mk (show ∀ k, x + 1 ≤ k → k < p + j → Plain (rd L k) from fun k h1 h2 => if h : k < p then HP2.out k h1 h else hpl k (by omega) h2)
          have HTZ := Aside0.mk htz
          have HSP := Aside0.mk hsp
          have f0 : (S == 0) = false := beq_eq_false_iff_ne.mpr hS0
          have f00 : (S != 0) = true := bne_iff_ne.mpr hS0
          have hdiv : Int.tdiv (8 * j + 7) 8 = j := by rw [Int.tdiv_eq_ediv_of_nonneg (by omega)]; omega
          have hdiv2 : (8 * j + 7) / 8 = j := by omega
          clear hpl htz hsp HP2 hS0
          go_wp2_with fail
          with_reducible refine (gojson_load64.calls (some ad) c L p W _ (HB.out.below ?e8).C HB.out.cap HW.out).mono ?_
          case e8 => exact (by repeat (first | exact HBW.out | apply pw_below_drewN))
          rintro e w2 ⟨rfl, ⟨m3, rfl⟩⟩
          go_wp2_with fail
          with_reducible refine (gojson_keyEndBytes.calls W S _ HS.out).mono ?_
          rintro e w2 ⟨rfl, ⟨m4, rfl⟩⟩
          go_wp2_with fail
          with_reducible refine (tz64.calls S (8 * j + 7) _ (HGL.out.below ?e9) HTZ.out).mono ?_
          case e9 => exact (by repeat (first | exact HBW.out | apply pw_below_drewN))
          rintro e w2 ⟨rfl, ⟨m5, rfl⟩⟩
          go_wp2_with fail
          with_reducible refine (char_ (HB.out.below ?e10) (p + j) (by omega) (by omega)).mono ?_
          case e10 => exact (by repeat (first | exact HBW.out | apply pw_below_drewN))
          rintro e w2 ⟨rfl, ⟨m6, rfl⟩⟩
          by_cases cq : rd L (p + j) = 34
          · have HQ34 := Aside0.mk cq
            have hin2 := HT.out.inside (x := p + j) (by omega) (by omega) (by omega)
            rw [cq]
            clear cq
            have HO3 := Aside0.mk (((plain_out (q := q) HT.out (by omega) (by omega) (by omega) HPL.out (.key :: r)).trans (txt_quote HT.out (by omega) (by omega) HQ34.out)).symm.trans HO2.out)
            go_wp2_with fail
            exact wp_goto (HQ.out _ _ _ ⟨(L.length - (p + j + 1)).toNat, by have := HN.out; omega, ⟨⟨rfl, rfl, rfl, rfl, rfl, rfl, (by repeat (first | exact HBW.out | apply pw_below_drewN))⟩, (p + j + 1), lev, obj, _, _, rfl, rfl, rfl, rfl, (HROW.out.below (pw_below_drewN (Below.refl _ _) _)), _, by omega, by omega, by omega, HREP.out, hdl, by omega, ⟨⟨r, rfl⟩, HO3.out⟩⟩⟩)
          · have f1 : (rd L (p + j) == 34) = false := beq_eq_false_iff_ne.mpr cq
            clear cq
            go_wp2_with fail
            with_reducible refine (skipString q ad c L (x) _ (HG.out.below ?c11) (HB.out.below ?d11) (by omega) (by omega) HX34.out).mono ?_
            case c11 => exact (by repeat (first | exact HBW.out | apply pw_below_drewN))
            case d11 => exact (by repeat (first | exact HBW.out | apply pw_below_drewN))
            rintro e w2 ⟨hb, ⟨d, hends, hd0, hd1, rfl⟩ | ⟨s, v2, hbad, ⟨s', g, rfl, hp⟩, rfl⟩⟩
            · have HROW2 := Aside0.mk (show Row w0 w2 v D from (HROW.out.below (pw_below_drewN (Below.refl _ _) _)).below hb)
              have HBW2 := Aside0.mk (show Below w0.heap.size w0 w2 from below_step (by repeat (first | exact HBW.out | apply pw_below_drewN)) hb)
              have HE := Aside0.mk hends
              clear hb hends
              go_wp2_with fail
              have HO3 := Aside0.mk ((HE.out (.key :: r)).symm.trans HO2.out)
              rename_i KL hKL
              refine wp_label (hKL _ _ ?_)
              refine gpass3 q ad c L nn O w0 HG.out HB.out hnn hn0 _ rfl (L.length - d).toNat _ w2 Q ?_ (fun l a' w' h => by obtain ⟨n', h5, h6⟩ := h; exact HQ.out l a' w' ⟨n', by have := HN.out; omega, h6⟩) HR.out
              exact ⟨⟨rfl, rfl, rfl, rfl, rfl, rfl, HBW2.out⟩, d, lev, obj, _, _, rfl, rfl, rfl, rfl, HROW2.out, _, by omega, by omega, by omega, HREP.out, hdl, by omega, ⟨⟨r, rfl⟩, HO3.out⟩⟩
            · have HB2 := Aside0.mk (show Below w0.heap.size w0 w2 from below_step (by repeat (first | exact HBW.out | apply pw_below_drewN)) hb)
              have HS := Aside0.mk (hbad [])
              have HO4 := Aside0.mk (HO2.out.symm.trans (hbad (.key :: r)))
              clear hb hbad hp
              go_wp2_with fail
              with_reducible refine (stringError q ad c L (x) _ s _ (HG.out.below HB2.out) (HB.out.below HB2.out) (by omega) (by omega) HS.out).mono ?_
              rintro e w3 ⟨v3, rfl, hv, hb⟩
              have HV := Aside0.mk hv
              have HB3 := Aside0.mk (below_step HB2.out hb)
              clear hv hb
              go_wp2_with fail
              exact HR.out _ _ ⟨rfl, HB3.out, .inr ⟨s, v3, HO4.out, HV.out, rfl, rfl⟩⟩
      · clear HP2
        go_wp2_with fail
        with_reducible refine (skipString q ad c L (x) _ (HG.out.below ?c12) (HB.out.below ?d12) (by omega) (by omega) HX34.out).mono ?_
        case c12 => exact (by repeat (first | exact HBW.out | apply pw_below_drewN))
        case d12 => exact (by repeat (first | exact HBW.out | apply pw_below_drewN))
        rintro e w2 ⟨hb, ⟨d, hends, hd0, hd1, rfl⟩ | ⟨s, v2, hbad, ⟨s', g, rfl, hp⟩, rfl⟩⟩
        · have HROW2 := Aside0.mk (show Row w0 w2 v D from (HROW.out.below (pw_below_drewN (Below.refl _ _) _)).below hb)
          have HBW2 := Aside0.mk (show Below w0.heap.size w0 w2 from below_step (by repeat (first | exact HBW.out | apply pw_below_drewN)) hb)
          have HE := Aside0.mk hends
          clear hb hends
          go_wp2_with fail
          have HO3 := Aside0.mk ((HE.out (.key :: r)).symm.trans HO2.out)
          rename_i KL hKL
          refine wp_label (hKL _ _ ?_)
          refine gpass3 q ad c L nn O w0 HG.out HB.out hnn hn0 _ rfl (L.length - d).toNat _ w2 Q ?_ (fun l a' w' h => by obtain ⟨n', h5, h6⟩ := h; exact HQ.out l a' w' ⟨n', by have := HN.out; omega, h6⟩) HR.out
          exact ⟨⟨rfl, rfl, rfl, rfl, rfl, rfl, HBW2.out⟩, d, lev, obj, _, _, rfl, rfl, rfl, rfl, HROW2.out, _, by omega, by omega, by omega, HREP.out, hdl, by omega, ⟨⟨r, rfl⟩, HO3.out⟩⟩
        · have HB2 := Aside0.mk (show Below w0.heap.size w0 w2 from below_step (by repeat (first | exact HBW.out | apply pw_below_drewN)) hb)
          have HS := Aside0.mk (hbad [])
          have HO4 := Aside0.mk (HO2.out.symm.trans (hbad (.key :: r)))
          clear hb hbad hp
          go_wp2_with fail
          with_reducible refine (stringError q ad c L (x) _ s _ (HG.out.below HB2.out) (HB.out.below HB2.out) (by omega) (by omega) HS.out).mono ?_
          rintro e w3 ⟨v3, rfl, hv, hb⟩
          have HV := Aside0.mk hv
          have HB3 := Aside0.mk (below_step HB2.out hb)
          clear hv hb
          go_wp2_with fail
          exact HR.out _ _ ⟨rfl, HB3.out, .inr ⟨s, v3, HO4.out, HV.out, rfl, rfl⟩⟩
  · have f1 : (rd L x == 34) = false := beq_eq_false_iff_ne.mpr cq
    have f2 : (rd L x != 34) = true := bne_iff_ne.mpr cq
    have HBD := Aside0.mk (HO.out.symm.trans (air_bad (q := q) (ph := .name) (st := .obj :: r) 1 false HT.out rfl (by omega) (by omega) (by unfold between; rw [if_neg HNB.out]; show nameOf q _ _ = _; unfold nameOf; rw [if_neg cq]; rfl) ⟨fun h => (Bool.false_ne_true h).elim, fun h => by omega⟩))
    clear cq
    go_wp2_with fail
    with_reducible refine (syntaxErrorAt q ad c L (x) 1 _ (HG.out.below ?c13) (HB.out.below ?d13) (by omega) (by omega)).mono ?_
    case c13 => exact (by repeat (first | exact HBW.out | apply pw_below_drewN))
    case d13 => exact (by repeat (first | exact HBW.out | apply pw_below_drewN))
    rintro e w2 ⟨v2, rfl, hv, hb⟩
    have HV := Aside0.mk hv
    have HB2 := Aside0.mk (show Below w0.heap.size w0 w2 from below_step (by repeat (first | exact HBW.out | apply pw_below_drewN)) hb)
    clear hv hb
    go_wp2_with fail
    exact HR.out _ _ ⟨rfl, HB2.out, .inr ⟨_, v2, HBD.out, HV.out, rfl, rfl⟩⟩
set_option maxRecDepth 100000 in
set_option maxHeartbeats 8000000 in
theorem gpass0 (q : ByteArray → ByteArray) (ad : Addr) (c : Nat) (L : List Int) (nn : Int) (O : Out) (w0 : World) (hG : G q w0) (hB : Buf w0 ad c L) (hnn : nn + L.length - 1 ≤ 10000) (hn0 : -1 ≤ nn) (Y : Code) (hY : findLabel (scopeOf Tryd.f88) 0 = some (Code.skip.seq Y)) (n : Nat) (a : Act) (w : World) (Q : Exit → Act → World → Prop)
    (hJ : JG q ad c L nn O w0 n 0 a w) (hQ : ∀ l a' w', (∃ n', n' < n ∧ JG q ad c L nn O w0 n' l a' w') → Q (.goto l) a' w') (hR : ∀ a' w', RG O w0 a' w' → Q .ret a' w') : Y.wp Tryd.prog Q a w := by
  have e : some (Code.skip.seq _) = some (Code.skip.seq Y) := hY
  cases e
  clear hY
  obtain ⟨f, x, lev, obj, v, D, rfl, hbw, hrow, st, hx0, hx1, hlx, hrep, hdl, hn, hlab⟩ := gs_open hJ
  clear hJ
  have hlen0 : lev = st.length := hrep.len
  have hlev0 : 0 ≤ lev := by omega
  clear hlen0
  have HQ := Aside0.mk hQ
  have HR := Aside0.mk hR
  have HREP := Aside0.mk hrep
  have HL := Aside0.mk hlab
  have HN := Aside0.mk hn
  have HT := Aside0.mk hB.txt
  have HB := Aside0.mk hB
  have HG := Aside0.mk hG
  have HGL := Aside0.mk hG.tab
  have HBW := Aside0.mk hbw
  have HROW := Aside0.mk hrow
  have hsm := hB.small
  clear hQ hR hrep hlab hB hG hn hbw hrow
  obtain ⟨A, cv, rfl, hrc, hrcap⟩ := HROW.out.reads
  have HRC := Aside0.mk hrc
  clear hrc
  by_cases cz : lev = 0
  · subst cz
    have hr : st = [] := by have := HREP.out.len; cases st with | nil => rfl | cons a l => rw [List.length_cons] at this; omega
    subst hr
    have HD : Aside0 (O = .done x) := ⟨HL.out.symm⟩
    go_wp2_with fail
    exact HR.out _ _ ⟨rfl, HBW.out, .inl ⟨x, HD.out, rfl, rfl⟩⟩
  have hne : st ≠ [] := fun h => by
    have := HREP.out.len
    rw [h] at this
    exact cz this
  have f0 : (lev == 0) = false := beq_eq_false_iff_ne.mpr cz
  clear cz
  go_wp2_with fail
  go_loopg [1] (L.length) (fun kq v1 w' => ∃ (z : Int), v1 = .int .i64 z ∧ Aside0 (x ≤ z ∧ z < L.length ∧ (∀ k, x ≤ k → k < z → isBlank (rd L k)) ∧ (L.length : Int) ≤ z + kq) ∧ Drawn0 w w')
  case atStart => exact ⟨x, rfl, ⟨Int.le_refl _, by omega, fun k h1 h2 => by omega, by omega⟩, by repeat (first | exact Drawn0.refl _ | apply Drawn0.step)⟩
  case round =>
    obtain ⟨z, rfl, HA, ⟨m2, rfl⟩⟩ := hrel
    obtain ⟨hz0, hz1, hz2, hz3⟩ := HA.out
    clear HA
    have HZ2 := Aside0.mk hz2
    clear hz2
    by_cases cbl : isBlank (rd L z)
    · have hin := HT.out.inside (x := z) (by omega) hz1 (by unfold isBlank at cbl; omega)
      have hcall := fun W => white (rd L z) W
      rw [decide_eq_true cbl] at hcall
      have HC := Aside0.mk hcall
      have HCB := Aside0.mk cbl
      clear cbl hcall
      obtain _ | g0 := gk
      · exfalso; omega
      go_wp2_with fail
      with_reducible refine (char_ (HB.out.below ?e14) (z) (by omega) (by omega)).mono ?_
      case e14 => exact (by repeat (first | exact HBW.out | apply pw_below_drewN))
      rintro e w1 ⟨rfl, ⟨m1, rfl⟩⟩
      go_wp2_with fail
      with_reducible refine (HC.out _).mono ?_
      rintro e w2 ⟨rfl, ⟨m3, rfl⟩⟩
      go_wp2_with fail
      go_roundg g0
      case measure => omega
      case rel => exact ⟨z + 1, rfl, ⟨by omega, by omega, fun k h1 h2 => if hk : k = z then by rw [hk]; exact HCB.out else HZ2.out k h1 (by omega), by omega⟩, by repeat (first | exact Drawn0.refl _ | apply Drawn0.step)⟩
    · have hcall := fun W => white (rd L z) W
      rw [decide_eq_false cbl] at hcall
      have HC := Aside0.mk hcall
      have HZR := Aside0.mk (show RunTo isBlank L (x) z from ⟨hz0, hz1, HZ2.out, cbl⟩)
      clear cbl hcall HZ2
      go_wp2_with fail
      with_reducible refine (char_ (HB.out.below ?e15) (z) (by omega) (by omega)).mono ?_
      case e15 => exact (by repeat (first | exact HBW.out | apply pw_below_drewN))
      rintro e w1 ⟨rfl, ⟨m1, rfl⟩⟩
      go_wp2_with fail
      with_reducible refine (HC.out _).mono ?_
      rintro e w2 ⟨rfl, ⟨m3, rfl⟩⟩
      have HO := Aside0.mk ((ws_out (q := q) HT.out (closed_airy _ hne) (by omega) HZR.out _).symm.trans ((contO_out hne x).symm.trans HL.out))
      have hzl := HZR.out.le
      have HST := Aside0.mk HZR.out.stop
      obtain _ | ⟨b, r⟩ := st
      · exact absurd rfl hne
      have hll : lev = (r.length : Int) + 1 := by have := HREP.out.len; rw [List.length_cons] at this; omega
      have hl1 : 1 ≤ lev := by omega
      clear HL HZR hne hll
      obtain _ | _ | _ := b
      · as_aux_lemma =>
          have HO : Aside0 (out q L .memb (.obj :: r) z = O) := HO
          have HIN : Aside0 (gojson_inObject.f obj D (lev - 1) = some true) := ⟨inObj HREP.out (by omega)⟩
          go_wp2_with fail
          with_reducible refine (gojson_inObject.calls obj A cv D (lev - 1) true _ (Kd.C_below HRC.out ?e16) hrcap HIN.out).mono ?_
          case e16 => exact (by repeat (first | exact Below.refl _ _ | apply pw_below_drewN))
          rintro e w2 ⟨rfl, ⟨m4, rfl⟩⟩
          go_wp2_with fail
          with_reducible refine (char_ (HB.out.below ?e17) (z) (by omega) (by omega)).mono ?_
          case e17 => exact (by repeat (first | exact HBW.out | apply pw_below_drewN))
          rintro e w1 ⟨rfl, ⟨m1, rfl⟩⟩
          by_cases cc : rd L z = 44
          · have hin := HT.out.inside (x := z) (by omega) hz1 (by omega)
            have HO2 := Aside0.mk ((air_ok (q := q) (ph := .memb) (ph' := .name) (st := .obj :: r) (st' := .obj :: r) HT.out rfl (by omega) hin (by rw [cc]; rfl) rfl).symm.trans HO.out)
            have f1 : (rd L z == 44) = true := beq_iff_eq.mpr cc
            clear HO cc HST
            go_wp2_with fail
            go_loopg [1] (L.length) (fun kq v1 w' => ∃ (u : Int), v1 = .int .i64 u ∧ Aside0 (z + 1 ≤ u ∧ u < L.length ∧ (∀ k, z + 1 ≤ k → k < u → isBlank (rd L k)) ∧ (L.length : Int) ≤ u + kq) ∧ Drawn0 w w')
            case atStart => exact ⟨z + 1, rfl, ⟨Int.le_refl _, by omega, fun k h1 h2 => by omega, by omega⟩, by repeat (first | exact Drawn0.refl _ | apply Drawn0.step)⟩
            case round =>
              obtain ⟨u, rfl, HA, ⟨m2, rfl⟩⟩ := hrel
              obtain ⟨hz0, hz1, hz2, hz3⟩ := HA.out
              clear HA
              have HZ2 := Aside0.mk hz2
              clear hz2
              by_cases cbl : isBlank (rd L u)
              · have hin := HT.out.inside (x := u) (by omega) hz1 (by unfold isBlank at cbl; omega)
                have hcall := fun W => white (rd L u) W
                rw [decide_eq_true cbl] at hcall
                have HC := Aside0.mk hcall
                have HCB := Aside0.mk cbl
                clear cbl hcall
                obtain _ | g0 := gk
                · exfalso; omega
                go_wp2_with fail
                with_reducible refine (char_ (HB.out.below ?e18) (u) (by omega) (by omega)).mono ?_
                case e18 => exact (by repeat (first | exact HBW.out | apply pw_below_drewN))
                rintro e w1 ⟨rfl, ⟨m1, rfl⟩⟩
                go_wp2_with fail
                with_reducible refine (HC.out _).mono ?_
                rintro e w2 ⟨rfl, ⟨m3, rfl⟩⟩
                go_wp2_with fail
                go_roundg g0
                case measure => omega
                case rel => exact ⟨u + 1, rfl, ⟨by omega, by omega, fun k h1 h2 => if hk : k = u then by rw [hk]; exact HCB.out else HZ2.out k h1 (by omega), by omega⟩, by repeat (first | exact Drawn0.refl _ | apply Drawn0.step)⟩
              · have hcall := fun W => white (rd L u) W
                rw [decide_eq_false cbl] at hcall
                have HC := Aside0.mk hcall
                have HZR := Aside0.mk (show RunTo isBlank L (z + 1) u from ⟨hz0, hz1, HZ2.out, cbl⟩)
                clear cbl hcall HZ2
                go_wp2_with fail
                with_reducible refine (char_ (HB.out.below ?e19) (u) (by omega) (by omega)).mono ?_
                case e19 => exact (by repeat (first | exact HBW.out | apply pw_below_drewN))
                rintro e w1 ⟨rfl, ⟨m1, rfl⟩⟩
                go_wp2_with fail
                with_reducible refine (HC.out _).mono ?_
                rintro e w2 ⟨rfl, ⟨m3, rfl⟩⟩
                have HO3 := Aside0.mk ((ws_out (q := q) (ph := .name) HT.out rfl (by omega) HZR.out _).symm.trans HO2.out)
                have hzl := HZR.out.le
                go_wp2_with fail
                exact wp_goto (HQ.out _ _ _ ⟨(L.length - (u)).toNat, by have := HN.out; omega, ⟨⟨rfl, rfl, rfl, rfl, rfl, rfl, (by repeat (first | exact HBW.out | apply pw_below_drewN))⟩, (u), lev, obj, _, _, rfl, rfl, rfl, rfl, (HROW.out.below (pw_below_drewN (Below.refl _ _) _)), _, by omega, by omega, by omega, HREP.out, hdl, by omega, ⟨⟨_, rfl⟩, HO3.out, HZR.out.stop⟩⟩⟩)
          by_cases cs : rd L z = 125
          · have hin := HT.out.inside (x := z) (by omega) hz1 (by omega)
            have HO2 := Aside0.mk ((air_shut (q := q) (ph := .memb) (st := .obj :: r) HT.out rfl (by omega) hin (by rw [cs]; rfl)).symm.trans HO.out)
            have f1 : (rd L z == 44) = false := beq_eq_false_iff_ne.mpr cc
            have f2 : (rd L z == 125) = true := beq_iff_eq.mpr cs
            clear HO cc cs HST
            go_wp2_with fail
            exact wp_goto (HQ.out _ _ _ ⟨(L.length - (z + 1)).toNat, by have := HN.out; omega, ⟨⟨rfl, rfl, rfl, rfl, rfl, rfl, (by repeat (first | exact HBW.out | apply pw_below_drewN))⟩, (z + 1), lev - 1, obj, _, _, rfl, rfl, rfl, rfl, (HROW.out.below (pw_below_drewN (Below.refl _ _) _)), _, by omega, by omega, by omega, HREP.out.pop, hdl, by omega, HO2.out⟩⟩)
          · have f1 : (rd L z == 44) = false := beq_eq_false_iff_ne.mpr cc
            have f2 : (rd L z == 125) = false := beq_eq_false_iff_ne.mpr cs
            have HBD := Aside0.mk (HO.out.symm.trans (air_bad (q := q) (ph := .memb) (st := .obj :: r) 3 false HT.out rfl (by omega) (by omega) (by unfold between; rw [if_neg HST.out]; show (if rd L z = 44 then _ else _) = _; rw [if_neg cc, if_neg cs]; rfl) ⟨fun h => (Bool.false_ne_true h).elim, fun h => by omega⟩))
            clear cc cs
            go_wp2_with fail
            with_reducible refine (syntaxErrorAt q ad c L (z) 3 _ (HG.out.below ?c20) (HB.out.below ?d20) (by omega) (by omega)).mono ?_
            case c20 => exact (by repeat (first | exact HBW.out | apply pw_below_drewN))
            case d20 => exact (by repeat (first | exact HBW.out | apply pw_below_drewN))
            rintro e w2 ⟨v2, rfl, hv, hb⟩
            have HV := Aside0.mk hv
            have HB2 := Aside0.mk (show Below w0.heap.size w0 w2 from below_step (by repeat (first | exact HBW.out | apply pw_below_drewN)) hb)
            clear hv hb
            go_wp2_with fail
            exact HR.out _ _ ⟨rfl, HB2.out, .inr ⟨_, v2, HBD.out, HV.out, rfl, rfl⟩⟩
      · as_aux_lemma =>
          have HO : Aside0 (out q L .item (.arr :: r) z = O) := HO
          have HIN : Aside0 (gojson_inObject.f obj D (lev - 1) = some false) := ⟨inObj HREP.out (by omega)⟩
          go_wp2_with fail
          with_reducible refine (gojson_inObject.calls obj A cv D (lev - 1) false _ (Kd.C_below HRC.out ?e21) hrcap HIN.out).mono ?_
          case e21 => exact (by repeat (first | exact Below.refl _ _ | apply pw_below_drewN))
          rintro e w2 ⟨rfl, ⟨m4, rfl⟩⟩
          go_wp2_with fail
          with_reducible refine (char_ (HB.out.below ?e22) (z) (by omega) (by omega)).mono ?_
          case e22 => exact (by repeat (first | exact HBW.out | apply pw_below_drewN))
          rintro e w1 ⟨rfl, ⟨m1, rfl⟩⟩
          by_cases cc : rd L z = 44
          · have hin := HT.out.inside (x := z) (by omega) hz1 (by omega)
            have HO2 := Aside0.mk ((air_ok (q := q) (ph := .item) (ph' := .val) (st := .arr :: r) (st' := .arr :: r) HT.out rfl (by omega) hin (by rw [cc]; rfl) rfl).symm.trans HO.out)
            have f1 : (rd L z == 44) = true := beq_iff_eq.mpr cc
            clear HO cc HST
            go_wp2_with fail
            exact wp_goto (HQ.out _ _ _ ⟨(L.length - (z + 1)).toNat, by have := HN.out; omega, ⟨⟨rfl, rfl, rfl, rfl, rfl, rfl, (by repeat (first | exact HBW.out | apply pw_below_drewN))⟩, (z + 1), lev, obj, _, _, rfl, rfl, rfl, rfl, (HROW.out.below (pw_below_drewN (Below.refl _ _) _)), _, by omega, by omega, by omega, HREP.out, hdl, by omega, HO2.out⟩⟩)
          by_cases cs : rd L z = 93
          · have hin := HT.out.inside (x := z) (by omega) hz1 (by omega)
            have HO2 := Aside0.mk ((air_shut (q := q) (ph := .item) (st := .arr :: r) HT.out rfl (by omega) hin (by rw [cs]; rfl)).symm.trans HO.out)
            have f1 : (rd L z == 44) = false := beq_eq_false_iff_ne.mpr cc
            have f2 : (rd L z == 93) = true := beq_iff_eq.mpr cs
            clear HO cc cs HST
            go_wp2_with fail
            exact wp_goto (HQ.out _ _ _ ⟨(L.length - (z + 1)).toNat, by have := HN.out; omega, ⟨⟨rfl, rfl, rfl, rfl, rfl, rfl, (by repeat (first | exact HBW.out | apply pw_below_drewN))⟩, (z + 1), lev - 1, obj, _, _, rfl, rfl, rfl, rfl, (HROW.out.below (pw_below_drewN (Below.refl _ _) _)), _, by omega, by omega, by omega, HREP.out.pop, hdl, by omega, HO2.out⟩⟩)
          · have f1 : (rd L z == 44) = false := beq_eq_false_iff_ne.mpr cc
            have f2 : (rd L z == 93) = false := beq_eq_false_iff_ne.mpr cs
            have HBD := Aside0.mk (HO.out.symm.trans (air_bad (q := q) (ph := .item) (st := .arr :: r) 4 false HT.out rfl (by omega) (by omega) (by unfold between; rw [if_neg HST.out]; show (if rd L z = 44 then _ else _) = _; rw [if_neg cc, if_neg cs]; rfl) ⟨fun h => (Bool.false_ne_true h).elim, fun h => by omega⟩))
            clear cc cs
            go_wp2_with fail
            with_reducible refine (syntaxErrorAt q ad c L (z) 4 _ (HG.out.below ?c23) (HB.out.below ?d23) (by omega) (by omega)).mono ?_
            case c23 => exact (by repeat (first | exact HBW.out | apply pw_below_drewN))
            case d23 => exact (by repeat (first | exact HBW.out | apply pw_below_drewN))
            rintro e w2 ⟨v2, rfl, hv, hb⟩
            have HV := Aside0.mk hv
            have HB2 := Aside0.mk (show Below w0.heap.size w0 w2 from below_step (by repeat (first | exact HBW.out | apply pw_below_drewN)) hb)
            clear hv hb
            go_wp2_with fail
            exact HR.out _ _ ⟨rfl, HB2.out, .inr ⟨_, v2, HBD.out, HV.out, rfl, rfl⟩⟩
      · exact absurd (HREP.out.plain .key (by simp)) (by decide)
end Go.Proofs.YtfkagnpdapkaaaaDoor.Err
