/- The walk over compact JSON: where a text ends. -/
import Derived.Test.YtbikiibpjdiaaaaDoorFG
namespace Go.Proofs.YtbikiibpjdiaaaaDoor.Err
open Go.RowKit Go.Proofs.YtbikiibpjdiaaaaDoorW.PrintWords Go.Proofs.YtbikiibpjdiaaaaDoorW.PrintLast Go.Proofs.YtbikiibpjdiaaaaDoorW.PrintMore Go.Proofs.YtbikiibpjdiaaaaDoor.Swar Go.Proofs.YtbikiibpjdiaaaaDoor.Dig Go.Proofs.YtbikiibpjdiaaaaDoor.Tab Go.Proofs.YtbikiibpjdiaaaaDoor.QF Go.Proofs.YtbikiibpjdiaaaaDoor.Key
set_option linter.unusedVariables false
/-- No byte below one: none is told. -/
theorem comp_none (c : Nat) (hc : c = 1 ∨ c = 32) : ∀ l : List Nat, Bs l → (∀ b ∈ l, c ≤ b) → comp l.length (hw l) c &&& hw (List.replicate l.length 128) = 0
 | [], _, _ => by simp [hw]
 | b :: r, h, hge => by
  have hb := bs_head h
  have hr := bs_tail h
  have ih := comp_none c hc r hr (fun x hx => hge x (by simp [hx]))
  have hF := hw_lt r hr
  show comp (r.length + 1) (b + 256 * hw r) c &&& (128 + 256 * hw (List.replicate r.length 128)) = 0
  rw [comp_ok r.length b (hw r) c hb hF (hge b (by simp)), and_step _ _ _ _ (Nat.lt_of_le_of_lt Nat.and_le_right (by omega)) (by decide), ih]
  have lane : ∀ b : Fin 256, ((b.1 - 1) &&& (255 - b.1)) &&& 128 = 0 ∧ ((b.1 - 32) &&& (255 - b.1)) &&& 128 = 0 := by decide +kernel
  have := lane ⟨b, hb⟩
  rcases hc with rfl | rfl
  ·rw [this.1]
  ·rw [this.2]
/-- The word's operations where no byte is a control character. -/
structure QuoOps (W q b s1 a1 s2 a2 o1 m : Int) : Prop where
 e_xq : Go.bits .xor .u64 W 2459565876494606882 = q
 e_xb : Go.bits .xor .u64 W 6655295901103053916 = b
 e_s1 : IntKind.u64.wrap (q - 72340172838076673) = s1
 e_a1 : Go.bits .andNot .u64 s1 q = a1
 e_s2 : IntKind.u64.wrap (b - 72340172838076673) = s2
 e_a2 : Go.bits .andNot .u64 s2 b = a2
 e_o1 : Go.bits .or .u64 a1 a2 = o1
 e_m : Go.bits .and .u64 o1 9259542123273814144 = m
theorem quo_ops (l : List Nat) (hl : l.length = 8) (h : Bs l) (h32 : ∀ b ∈ l, 32 ≤ b) : ∃ q b s1 a1 s2 a2 o1, QuoOps ((hw l : Nat) : Int) q b s1 a1 s2 a2 o1 ((mask l : Nat) : Int) ∧ ((∀ b ∈ l, b ≠ 92) → Go.bits .and .u64 a1 9259542123273814144 = ((mask l : Nat) : Int)) := by
 have lt : hw l < 18446744073709551616 := by have := hw_lt l h; rw [hl] at this; exact this
 have bq := xor_bs l 34 (by decide) h
 have bs := xor_bs l 92 (by decide) h
 have lq : hw (l.map (· ^^^ 34)) < 18446744073709551616 := by have := hw_lt _ bq; rw [len_map, hl] at this; exact this
 have ls : hw (l.map (· ^^^ 92)) < 18446744073709551616 := by have := hw_lt _ bs; rw [len_map, hl] at this; exact this
 have eq1 : Go.bits .xor .u64 ((hw l : Nat) : Int) 2459565876494606882 = ((hw (l.map (· ^^^ 34)) : Nat) : Int) := by
  rw [← hw_xor l 34 h (by decide), hl]
  exact bits_xor (hw l) 2459565876494606882 lt (by decide)
 have eq2 : Go.bits .xor .u64 ((hw l : Nat) : Int) 6655295901103053916 = ((hw (l.map (· ^^^ 92)) : Nat) : Int) := by
  rw [← hw_xor l 92 h (by decide), hl]
  exact bits_xor (hw l) 6655295901103053916 lt (by decide)
 have m (x : Nat) : x % 18446744073709551616 < 18446744073709551616 := Nat.mod_lt _ (by decide)
 have al (x y : Nat) (hx : x < 18446744073709551616) : x &&& y < 18446744073709551616 := Nat.lt_of_le_of_lt Nat.and_le_left hx
 have c1 := sub_wrap _ 72340172838076673 lq (by decide)
 have c2 := sub_wrap _ 72340172838076673 ls (by decide)
 have n32 := comp_none 32 (.inr rfl) l h h32
 have hmask : mask l = (comp l.length (hw (l.map (· ^^^ 34))) 1 ||| comp l.length (hw (l.map (· ^^^ 92))) 1) &&& hw (List.replicate l.length 128) := by
  unfold mask
  rw [Nat.and_or_distrib_right (comp l.length (hw (l.map (· ^^^ 34))) 1 ||| comp l.length (hw (l.map (· ^^^ 92))) 1), n32, Nat.or_zero]
 have hM : (9259542123273814144 : Int) = ((9259542123273814144 : Nat) : Int) := rfl
 refine ⟨_, _, _, _, _, _, _, ⟨eq1, eq2, c1, Swar.bits_andNot _ _ (m _) lq, c2, Swar.bits_andNot _ _ (m _) ls, Swar.bits_or _ _ (al _ _ (m _)) (al _ _ (m _)), ?_⟩, fun h92 => ?_⟩
 ·rw [hM, Swar.bits_and _ _ (Nat.or_lt_two_pow (n := 64) (al _ _ (m _)) (al _ _ (m _))) (by decide), hmask]
  unfold comp
  rw [hl]
  rfl
 ·have n92 := comp_none 1 (.inl rfl) (l.map (· ^^^ 92)) bs (fun b hb => by
   obtain ⟨x, hx, rfl⟩ := List.mem_map.1 hb
   have hne := h92 x hx
   have lane : ∀ b : Fin 256, b.1 = 92 ∨ 1 ≤ b.1 ^^^ 92 := by decide +kernel
   rcases lane ⟨x, h x hx⟩ with h0 | h0
   ·exact absurd h0 hne
   ·exact h0)
  rw [len_map] at n92
  rw [hM, Swar.bits_and _ _ (al _ _ (m _)) (by decide), hmask, Nat.and_or_distrib_right (comp l.length (hw (l.map (· ^^^ 34))) 1), n92, Nat.or_zero]
  unfold comp
  rw [hl]
  rfl
section
variable {w w' : World} {A : Option Addr} {ad : Addr} {c : Nat} {l : List Int} {x y : Int}
/-- Bytes that have no control characters. -/
structure High (l : List Int) : Prop where
 byt : ∀ y ∈ l, 32 ≤ y ∧ y < 256
 len : l.length ≤ 1000000
theorem High.low (h : High l) : ∀ y, y ∈ l → 0 ≤ y ∧ y < 256 := fun y hy => by have := h.byt y hy; omega
theorem High.txt (h : High l) : Txt (l ++ [0]) := txt_of h.low h.len
theorem word_quo (h : High l) (c : Int) (h0 : 0 ≤ c) (h8 : c + 8 ≤ l.length) : ∃ W q b s1 a1 s2 a2 o1 m, gojsonformat_le64.f (l.drop c.toNat) = some W ∧ QuoOps W q b s1 a1 s2 a2 o1 m ∧ ((∀ y ∈ l, y ≠ 92) → Go.bits .and .u64 a1 9259542123273814144 = m) ∧
  ((m = 0 ∧ ∀ k, c ≤ k → k < c + 8 → Plain (rd l k)) ∨ (m ≠ 0 ∧ ∃ t j : Int, 0 ≤ j ∧ j < 8 ∧ tz64.f m = some t ∧ Int.tdiv t 8 = j ∧ (∀ k, c ≤ k → k < c + j → Plain (rd l k)) ∧ ¬ Plain (rd l (c + j)))) := by
 obtain ⟨i, rfl⟩ := Int.eq_ofNat_of_zero_le h0
 have hb : Bytes l := fun y hy => h.low y hy
 have hl := nb_length l 8 i
 have hbs := nb_bs l hb 8 i
 have mem : ∀ k : Int, 0 ≤ k → k < l.length → rd l k ∈ l := fun k h1 h2 => by obtain ⟨_, e⟩ := rd_get l k h1 h2; rw [e]; exact List.getElem_mem _
 have get : ∀ j, j < 8 → (nb l 8 i).getD j 0 = (rd l ((i : Int) + j)).toNat := fun j hj => by
  rw [nb_get l 8 i j hj, show (((i + j : Nat)) : Int) = (i : Int) + j by omega]
 have pos : ∀ j : Nat, j < 8 → 32 ≤ rd l ((i : Int) + j) := fun j hj => (h.byt _ (mem _ (by omega) (by omega))).1
 have all : ∀ b ∈ nb l 8 i, ∃ j, j < 8 ∧ b = (rd l ((i : Int) + (j : Nat))).toNat := fun b hb => by
  obtain ⟨j, hj, rfl⟩ := List.mem_iff_getElem.1 hb
  rw [hl] at hj
  refine ⟨j, hj, ?_⟩
  rw [← get j hj, List.getD_eq_getElem?_getD, List.getElem?_eq_getElem (by omega)]
  rfl
 obtain ⟨q, b, s1, a1, s2, a2, o1, hk, hk2⟩ := quo_ops _ hl hbs (fun b hb => by obtain ⟨j, hj, rfl⟩ := all b hb; have := pos j hj; omega)
 refine ⟨((hw (nb l 8 i) : Nat) : Int), q, b, s1, a1, s2, a2, o1, ((mask (nb l 8 i) : Nat) : Int), le64F l hb i (by omega), hk, fun h92 => hk2 (fun b hb => ?_), ?_⟩
 ·obtain ⟨j, hj, rfl⟩ := all b hb
  have h1 := h92 _ (mem ((i : Int) + j) (by omega) (by omega))
  have h2 := pos j hj
  omega
 by_cases hm : mask (nb l 8 i) = 0
 ·refine .inl ⟨by rw [hm]; rfl, fun k h1 h2 => ?_⟩
  obtain ⟨j, rfl⟩ : ∃ j : Nat, k = (i : Int) + j := ⟨(k - i).toNat, by omega⟩
  have hj : j < 8 := by omega
  have := mask_zero _ hbs hm ((nb l 8 i).getD j 0) (by rw [List.getD_eq_getElem?_getD, List.getElem?_eq_getElem (by omega)]; exact List.getElem_mem _)
  rw [get j hj] at this
  exact (special_plain (by have := pos j hj; omega)).1 this
 ·obtain ⟨j, h1, h2, h3, h4⟩ := mask_first _ hbs hm 64 (by omega)
  rw [hl] at h2
  refine .inr ⟨by omega, 8 * (j : Int) + 7, (j : Int), by omega, by omega, ?_, ?_, fun k h5 h6 => ?_, ?_⟩
  ·have hlt : mask (nb l 8 i) < 18446744073709551616 := Nat.lt_of_le_of_lt Nat.and_le_right (by rw [hl]; decide)
   unfold tz64.f
   rw [if_pos ⟨by omega, by omega⟩, Int.toNat_natCast]
   unfold Lib.ctz
   first | rw [if_neg hm, h1] | rw [h1]
   congr 1
  ·rw [Int.tdiv_eq_ediv_of_nonneg (by omega)]
   omega
  ·obtain ⟨m, rfl⟩ : ∃ m : Nat, k = (i : Int) + m := ⟨(k - i).toNat, by omega⟩
   have := h4 m (by omega)
   rw [get m (by omega)] at this
   exact (special_plain (by have := pos m (by omega); omega)).1 this
  ·rw [get j h2] at h3
   exact (special_plain (by have := pos j h2; omega)).2 h3
/-- The eight bytes at a place. -/
theorem le64_C (hC : Kd.C (Kd.int .u8) w (some ad) l.length l) (hcap : l.length ≤ c) (b : Int) (h0 : 0 ≤ b) (h8 : b + 8 ≤ l.length) {W : Int} (hW : gojsonformat_le64.f (l.drop b.toNat) = some W) :
  Calls Tryd.prog 69 #[.slice (some (ad.add b.toNat)) (l.length - b.toNat) (c - b.toNat)] w fun e w' => e = .returned (.int .u64 W) ∧ Drawn0 w w' := by
 have hl : (l.drop b.toNat).length = l.length - b.toNat := List.length_drop
 have hR := ReadsOf.drop_ (c := c) (Kd.reads_of_C (enc := Value.int .u8) (d := (0 : Int)) (h1 := fun _ => rfl) hC) b.toNat (by omega) hcap
 rw [if_neg (by omega)] at hR
 have hc := gojsonformat_le64.calls (some (ad.add b.toNat)) (c - b.toNat) (l.drop b.toNat) W w (by rw [hl]; exact Kd.C_of_reads (h1 := fun _ => rfl) hR) (by rw [hl]; omega) hW
 rw [hl] at hc
 exact hc
/-- Where a text ends whose quote stands at x; nothing is said of -1. -/
def QE (l : List Int) (x r : Int) : Prop := r = -1 ∨ ∃ T, fstr (l ++ [0]) false x = some (r, T)
theorem rd_mem (h0 : 0 ≤ y) (h1 : y < l.length) : rd l y ∈ l := by obtain ⟨_, e⟩ := rd_get l y h0 h1; rw [e]; exact List.getElem_mem _
theorem plain_L {a b : Int} (h0 : 0 ≤ a) (hb : b ≤ l.length) (h : ∀ k, a ≤ k → k < b → Plain (rd l k)) : ∀ k, a ≤ k → k < b → Plain (rd (l ++ [0]) k) := fun k h1 h2 => by rw [rdL (by omega) (by omega)]; exact h k h1 h2
set_option maxRecDepth 100000 in
set_option maxHeartbeats 8000000 in
theorem quoteEnd (hC : Kd.C (Kd.int .u8) w A l.length l) (hcap : l.length ≤ c) (hG : Glob w) (hH : High l) (h92 : ∀ y ∈ l, y ≠ 92) (h0 : 0 ≤ x) (h1 : x < l.length) (hq : rd l x = 34) :
  Calls Tryd.prog 51 #[.slice A l.length c, .int .i64 (x + 1)] w fun e w' => (∃ r, e = .returned (.int .i64 r) ∧ QE l x r) ∧ Drawn0 w w' := by
 have hlen : ((l ++ [(0 : Int)]).length : Int) = l.length + 1 := by rw [List.length_append]; rfl
 have hsm := hH.len
 obtain ⟨ad, rfl, _⟩ := Kd.at_int hC x h0 h1
 have HT := Aside0.mk hH.txt
 have HC := Aside0.mk hC
 have HH := Aside0.mk hH
 have HTAB := Aside0.mk hG
 have H92 := Aside0.mk h92
 have HLEN := Aside0.mk hlen
 have HST : Aside0 (TextAt (l ++ [0]) false x x (x + 1) []) := ⟨ta_start h0 (by omega) (by rw [rdL h0 h1]; exact hq)⟩
 clear hC hH hG h92 hq hlen
 go_enter Tryd.func51, Tryd.ntmps51
 go_upto_block 0 with (fail)
 go_cut [1] from 8 to 45 (fun v1 wx => ∃ b : Int, v1 = .int .i64 b ∧ Aside0 (x + 1 ≤ b ∧ b ≤ l.length) ∧ Aside0 (TextAt (l ++ [0]) false x x b []) ∧ Drawn0 w wx)
 case first =>
  go_wp2_with fail
  go_loopg [1] (l.length + 1) (fun kq v1 w' => ∃ b : Int, v1 = .int .i64 b ∧ Aside0 (x + 1 ≤ b ∧ b ≤ l.length ∧ (l.length : Int) + 1 ≤ b + kq) ∧ Aside0 (TextAt (l ++ [0]) false x x b []) ∧ Drawn0 w w')
  case atStart => exact ⟨x + 1, rfl, ⟨by omega, by omega, by omega⟩, HST, Drawn0.refl _⟩
  case round =>
   obtain ⟨b, rfl, HB, HTB, ⟨m1, rfl⟩⟩ := hrel
   obtain ⟨b1, b2, b3⟩ := HB.out
   obtain _ | g1 := gk
   ·exfalso; omega
   have hx0 : 0 ≤ b := by omega
   have e8 : wrap64 (b + 8) = b + 8 := by unfold wrap64; omega
   by_cases h8 : b + 8 ≤ l.length
   ·have d8 : decide (b + 8 ≤ (l.length : Int)) = true := decide_eq_true h8
    have g2 : (b ≤ (l.length : Int)) = True := eq_true (by omega)
    have g3 : b.toNat < c := by omega
    obtain ⟨W, q1, q2, s1, a1, s2, a2, o1, m, hW, hK, hK2, hm⟩ := word_quo HH.out b hx0 h8
    have k9 := hK2 H92.out
    have HW : Aside0 (∀ n, Calls Tryd.prog 69 #[.slice (some (ad.add b.toNat)) (l.length - b.toNat) (c - b.toNat)] (w.drewN n) fun e w' => e = .returned (.int .u64 W) ∧ Drawn0 (w.drewN n) w') := ⟨fun n => le64_C (Kd.C_below HC.out (pw_below_drewN (Below.refl _ _) n)) hcap b hx0 h8 hW⟩
    have HM := Aside0.mk (And.intro b1 (And.intro b2 (And.intro b3 h8)))
    obtain ⟨k1, k2, k3, k4, k5, k6, k7, k8⟩ := hK
    rcases hm with ⟨rfl, hp⟩ | ⟨hm0, t, j, j0, j1, htz, hq, hp, hnp⟩
    ·have HTB2 := Aside0.mk (ta_plain HTB.out HT.out h0 (by omega) (show b + 8 < ((l ++ [(0 : Int)]).length : Int) by have := HLEN.out; omega) (by omega) (plain_L hx0 h8 hp))
     clear hW hp b1 b2 b3 h8 HB hK2 k2 k5 k6 k7 k8
     go_wp2_with fail
     with_reducible refine (HW.out _).mono ?_
     rintro e w1 ⟨rfl, ⟨m2, rfl⟩⟩
     go_wp2_with fail
     go_roundg g1
     case measure => omega
     case rel => exact ⟨b + 8, by first | rfl | rw [e8], ⟨by have := HM.out; omega, by have := HM.out; omega, by have := HM.out; omega⟩, HTB2, by first | exact ⟨_, rfl⟩ | (repeat (first | exact Drawn0.refl _ | apply Drawn0.step))⟩
    ·have hlt : b + j < l.length := by omega
     have HTB2 := Aside0.mk (ta_plain HTB.out HT.out h0 (by omega) (show b + j < ((l ++ [(0 : Int)]).length : Int) by have := HLEN.out; omega) (by omega) (plain_L hx0 (by omega) hp))
     have hq34 : rd l (b + j) = 34 := by
      have h1 := HH.out.byt _ (rd_mem (l := l) (y := b + j) (by omega) hlt)
      have h2 := H92.out _ (rd_mem (l := l) (y := b + j) (by omega) hlt)
      unfold Plain at hnp
      omega
     have HRES := Aside0.mk (ta_quote HTB2.out HT.out h0 (by omega) (by have := HLEN.out; omega) (by rw [rdL (by omega) hlt]; exact hq34))
     have hmf : (m == 0) = false := beq_eq_false_iff_ne.mpr hm0
     have HTZ : Aside0 (∀ n, Calls Tryd.prog 70 #[.int .u64 m] (w.drewN n) fun e w' => e = .returned (.int .i64 t) ∧ Drawn0 (w.drewN n) w') := ⟨fun n => tz64.calls m t (w.drewN n) ⟨HTAB.out.tab⟩ htz⟩
     have ej : wrap64 j = j := by unfold wrap64; omega
     have ebj : wrap64 (b + j) = b + j := by unfold wrap64; omega
     have ebj1 : wrap64 (b + j + 1) = b + j + 1 := by unfold wrap64; omega
     clear hW hp hnp b1 b2 b3 h8 HB hm0 htz j0 j1 hK2 k2 k5 k6 k7 k8 hq34 hlt
     go_wp2_with fail
     with_reducible refine (HW.out _).mono ?_
     rintro e w1 ⟨rfl, ⟨m2, rfl⟩⟩
     go_wp2_with fail
     with_reducible refine (HTZ.out _).mono ?_
     rintro e w1 ⟨rfl, ⟨m3, rfl⟩⟩
     go_wp2_with fail
     go_ret
     exact ⟨⟨b + j + 1, by first | rfl | simp [ebj, ebj1], .inr ⟨_, HRES.out⟩⟩, by first | exact ⟨_, rfl⟩ | (repeat (first | exact Drawn0.refl _ | apply Drawn0.step))⟩
   ·have d8 : decide (b + 8 ≤ (l.length : Int)) = false := decide_eq_false h8
    clear h8
    go_wp2_with fail
    go_meet
    case rel => exact ⟨b, rfl, ⟨b1, b2⟩, HTB, by first | exact ⟨_, rfl⟩ | (repeat (first | exact Drawn0.refl _ | apply Drawn0.step))⟩
 case rest =>
  obtain ⟨b0, rfl, HB0, HTB0, ⟨m0, rfl⟩⟩ := hcut
  have hb0 := HB0.out
  go_wp2_with fail
  go_loopg [1] (l.length + 1) (fun kq v1 w' => ∃ b : Int, v1 = .int .i64 b ∧ Aside0 (x + 1 ≤ b ∧ b ≤ l.length ∧ (l.length : Int) + 1 ≤ b + kq) ∧ Aside0 (TextAt (l ++ [0]) false x x b []) ∧ Drawn0 w w')
  case atStart => exact ⟨b0, rfl, ⟨by omega, by omega, by omega⟩, HTB0, ⟨_, rfl⟩⟩
  case round =>
   obtain ⟨b, rfl, HB, HTB, ⟨m1, rfl⟩⟩ := hrel
   obtain ⟨b1, b2, b3⟩ := HB.out
   obtain _ | g1 := gk
   ·exfalso; omega
   have hx0 : 0 ≤ b := by omega
   have e1 : wrap64 (b + 1) = b + 1 := by unfold wrap64; omega
   by_cases hbl : b < l.length
   ·have d8 : decide (b < (l.length : Int)) = true := decide_eq_true hbl
    obtain ⟨ad2, hA, hxi⟩ := Kd.at_int (Kd.C_below HC.out (pw_below_drewN (Below.refl _ _) m1)) b hx0 hbl
    cases hA
    have h1 := HH.out.byt _ (rd_mem (l := l) hx0 hbl)
    have h2 := H92.out _ (rd_mem (l := l) hx0 hbl)
    by_cases hq : rd l b = 34
    ·have f34 : (rd l b == 34) = true := beq_iff_eq.mpr hq
     have HRES := Aside0.mk (ta_quote HTB.out HT.out h0 (by omega) (by have := HLEN.out; omega) (by rw [rdL hx0 hbl]; exact hq))
     clear hq h1 h2 hb0 b1 b2 b3
     go_wp2_with fail
     go_ret
     exact ⟨⟨b + 1, by first | rfl | simp [e1], .inr ⟨_, HRES.out⟩⟩, by first | exact ⟨_, rfl⟩ | (repeat (first | exact Drawn0.refl _ | apply Drawn0.step))⟩
    ·have f34 : (rd l b == 34) = false := beq_eq_false_iff_ne.mpr hq
     have HTB2 := Aside0.mk (ta_other HTB.out HT.out h0 (by omega) (by have := HLEN.out; omega) (by rw [rdL hx0 hbl]; exact hq) (by rw [rdL hx0 hbl]; exact h2) (by rw [rdL hx0 hbl]; omega) (fun h => by cases h.1) (fun h => by cases h.1))
     clear hq h1 h2 hb0
     go_wp2_with fail
     go_roundg g1
     case measure => omega
     case rel => exact ⟨b + 1, by first | rfl | rw [e1], ⟨by omega, by omega, by omega⟩, HTB2, by first | exact ⟨_, rfl⟩ | (repeat (first | exact Drawn0.refl _ | apply Drawn0.step))⟩
   ·have d8 : decide (b < (l.length : Int)) = false := decide_eq_false hbl
    clear hbl hb0
    go_wp2_with fail
    go_ret
    exact ⟨⟨-1, rfl, .inl rfl⟩, by first | exact ⟨_, rfl⟩ | (repeat (first | exact Drawn0.refl _ | apply Drawn0.step))⟩
/-- The eight bytes' walk of a text that may have escapes, and what follows. -/
theorem esc_call_l (hC : Kd.C (Kd.int .u8) w A l.length l) (hcap : l.length ≤ c) (hl : l.length ≤ 1000000) (h0 : 0 ≤ y) (h1 : y ≤ l.length) :
  Calls Tryd.prog 71 #[.slice A l.length c, .int .i64 y] w fun e w' => e = .returned (.int .i64 (if y < l.length then escL l y else -1)) ∧ Drawn0 w w' :=
 escEnd.calls A c l y _ w hC hcap (by unfold escEnd.f; rw [if_pos ⟨h0, by omega⟩])
theorem escL_L (hT : Txt (l ++ [0])) (h0 : 0 ≤ y) (h1 : y ≤ l.length) : (if y < l.length then escL l y else -1) = escI (l ++ [0]) y := by
 have h := escL_eq hT y h0 (by rw [List.length_append, List.length_singleton]; omega)
 have e : (l ++ [(0 : Int)]).take ((l ++ [(0 : Int)]).length - 1) = l := by rw [List.length_append, List.length_singleton, Nat.add_sub_cancel, List.take_left]
 rw [e] at h
 exact h
set_option maxRecDepth 100000 in
set_option maxHeartbeats 8000000 in
theorem escapedQuoteEnd (hC : Kd.C (Kd.int .u8) w A l.length l) (hcap : l.length ≤ c) (hG : Glob w) (hH : High l) (h0 : 0 ≤ x) (h1 : x < l.length) (hq : rd l x = 34) :
  Calls Tryd.prog 52 #[.slice A l.length c, .int .i64 (x + 1)] w fun e w' => (∃ r, e = .returned (.int .i64 r) ∧ QE l x r) ∧ Drawn0 w w' := by
 have hlen : ((l ++ [(0 : Int)]).length : Int) = l.length + 1 := by rw [List.length_append]; rfl
 have hsm := hH.len
 obtain ⟨ad, rfl, _⟩ := Kd.at_int hC x h0 h1
 have HT := Aside0.mk hH.txt
 have HC := Aside0.mk hC
 have HH := Aside0.mk hH
 have HTAB := Aside0.mk hG
 have HLEN := Aside0.mk hlen
 have HST : Aside0 (TextAt (l ++ [0]) false x x (x + 1) []) := ⟨ta_start h0 (by omega) (by rw [rdL h0 h1]; exact hq)⟩
 clear hC hH hG hq hlen
 go_enter Tryd.func52, Tryd.ntmps52
 go_wp2_with fail
 go_loopg [1] (l.length + 1) (fun kq v1 w' => ∃ y : Int, v1 = .int .i64 y ∧ Aside0 (x + 1 ≤ y ∧ y ≤ l.length ∧ (l.length : Int) + 1 ≤ y + kq) ∧ Aside0 (TextAt (l ++ [0]) false x x y []) ∧ Drawn0 w w')
 case atStart => exact ⟨x + 1, rfl, ⟨by omega, by omega, by omega⟩, HST, Drawn0.refl _⟩
 case round =>
  obtain ⟨y0, rfl, HY, HTA, ⟨m9, rfl⟩⟩ := hrel
  obtain ⟨y1, y2, y3⟩ := HY.out
  obtain _ | g0 := gk
  ·exfalso; omega
  go_upto_block 2 with (fail)
  go_cut [1] from 12 to 77 (fun v1 wx => ∃ b : Int, v1 = .int .i64 b ∧ Aside0 (y0 ≤ b ∧ b ≤ l.length) ∧ Aside0 (TextAt (l ++ [0]) false x x b []) ∧ Drawn0 w wx)
  case first =>
   go_wp2_with fail
   go_loopg [1] (l.length + 1) (fun kq v1 w' => ∃ b : Int, v1 = .int .i64 b ∧ Aside0 (y0 ≤ b ∧ b ≤ l.length ∧ (l.length : Int) + 1 ≤ b + kq) ∧ Aside0 (TextAt (l ++ [0]) false x x b []) ∧ Drawn0 w w')
   case atStart => exact ⟨y0, rfl, ⟨by omega, by omega, by omega⟩, HTA, ⟨_, rfl⟩⟩
   case round =>
    obtain ⟨b, rfl, HB, HTB, ⟨m1, rfl⟩⟩ := hrel
    obtain ⟨b1, b2, b3⟩ := HB.out
    obtain _ | g1 := gk
    ·exfalso; omega
    have hx0 : 0 ≤ b := by omega
    have e8 : wrap64 (b + 8) = b + 8 := by unfold wrap64; omega
    by_cases h8 : b + 8 ≤ l.length
    ·have d8 : decide (b + 8 ≤ (l.length : Int)) = true := decide_eq_true h8
     have g2 : (b ≤ (l.length : Int)) = True := eq_true (by omega)
     have g3 : b.toNat < c := by omega
     obtain ⟨W, q1, q2, s1, a1, s2, a2, o1, m, hW, hK, hK2, hm⟩ := word_quo HH.out b hx0 h8
     have HW : Aside0 (∀ n, Calls Tryd.prog 69 #[.slice (some (ad.add b.toNat)) (l.length - b.toNat) (c - b.toNat)] (w.drewN n) fun e w' => e = .returned (.int .u64 W) ∧ Drawn0 (w.drewN n) w') := ⟨fun n => le64_C (Kd.C_below HC.out (pw_below_drewN (Below.refl _ _) n)) hcap b hx0 h8 hW⟩
     have HM := Aside0.mk (And.intro b1 (And.intro b2 (And.intro b3 h8)))
     obtain ⟨k1, k2, k3, k4, k5, k6, k7, k8⟩ := hK
     rcases hm with ⟨rfl, hp⟩ | ⟨hm0, t, j, j0, j1, htz, hq, hp, hnp⟩
     ·have HTB2 := Aside0.mk (ta_plain HTB.out HT.out h0 (by omega) (show b + 8 < ((l ++ [(0 : Int)]).length : Int) by have := HLEN.out; omega) (by omega) (plain_L hx0 h8 hp))
      clear hW hp b1 b2 b3 h8 HB hK2 y1 y2 y3
      go_wp2_with fail
      with_reducible refine (HW.out _).mono ?_
      rintro e w1 ⟨rfl, ⟨m2, rfl⟩⟩
      go_wp2_with fail
      go_roundg g1
      case measure => omega
      case rel => exact ⟨b + 8, by first | rfl | rw [e8], ⟨by have := HM.out; omega, by have := HM.out; omega, by have := HM.out; omega⟩, HTB2, by first | exact ⟨_, rfl⟩ | (repeat (first | exact Drawn0.refl _ | apply Drawn0.step))⟩
     ·have hlt : b + j < l.length := by omega
      have HTB2 := Aside0.mk (ta_plain HTB.out HT.out h0 (by omega) (show b + j < ((l ++ [(0 : Int)]).length : Int) by have := HLEN.out; omega) (by omega) (plain_L hx0 (by omega) hp))
      have hmf : (m == 0) = false := beq_eq_false_iff_ne.mpr hm0
      have HTZ : Aside0 (∀ n, Calls Tryd.prog 70 #[.int .u64 m] (w.drewN n) fun e w' => e = .returned (.int .i64 t) ∧ Drawn0 (w.drewN n) w') := ⟨fun n => tz64.calls m t (w.drewN n) ⟨HTAB.out.tab⟩ htz⟩
      have ej : wrap64 j = j := by unfold wrap64; omega
      have ebj : wrap64 (b + j) = b + j := by unfold wrap64; omega
      have HLT := Aside0.mk (And.intro hlt j0)
      clear hW hp hnp b1 b2 b3 h8 HB hm0 htz j0 j1 hK2 hlt y1 y2 y3
      go_wp2_with fail
      with_reducible refine (HW.out _).mono ?_
      rintro e w1 ⟨rfl, ⟨m2, rfl⟩⟩
      go_wp2_with fail
      with_reducible refine (HTZ.out _).mono ?_
      rintro e w1 ⟨rfl, ⟨m3, rfl⟩⟩
      go_wp2_with fail
      go_meet
      case rel => exact ⟨b + j, by first | rfl | simp [ebj], ⟨by have := HM.out; have := HLT.out; omega, by have := HLT.out; omega⟩, HTB2, by first | exact ⟨_, rfl⟩ | (repeat (first | exact Drawn0.refl _ | apply Drawn0.step))⟩
    ·have d8 : decide (b + 8 ≤ (l.length : Int)) = false := decide_eq_false h8
     clear h8
     go_wp2_with fail
     go_meet
     case rel => exact ⟨b, rfl, ⟨b1, b2⟩, HTB, by first | exact ⟨_, rfl⟩ | (repeat (first | exact Drawn0.refl _ | apply Drawn0.step))⟩
  case rest =>
   obtain ⟨b0, rfl, HB0, HTB0, ⟨m0, rfl⟩⟩ := hcut
   have hb0 := HB0.out
   go_upto_block 4 with (fail)
   go_cut [1] from 12 to 77 (fun v1 wx => ∃ b : Int, v1 = .int .i64 b ∧ Aside0 (y0 ≤ b ∧ b ≤ l.length ∧ (b = l.length ∨ rd l b = 34 ∨ rd l b = 92)) ∧ Aside0 (TextAt (l ++ [0]) false x x b []) ∧ Drawn0 w wx)
   case first =>
    go_wp2_with fail
    go_loopg [1] (l.length + 1) (fun kq v1 w' => ∃ b : Int, v1 = .int .i64 b ∧ Aside0 (y0 ≤ b ∧ b ≤ l.length ∧ (l.length : Int) + 1 ≤ b + kq) ∧ Aside0 (TextAt (l ++ [0]) false x x b []) ∧ Drawn0 w w')
    case atStart => exact ⟨b0, rfl, ⟨by omega, by omega, by omega⟩, HTB0, ⟨_, rfl⟩⟩
    case round =>
     obtain ⟨b, rfl, HB, HTB, ⟨m1, rfl⟩⟩ := hrel
     obtain ⟨b1, b2, b3⟩ := HB.out
     obtain _ | g1 := gk
     ·exfalso; omega
     have hx0 : 0 ≤ b := by omega
     have e1 : wrap64 (b + 1) = b + 1 := by unfold wrap64; omega
     by_cases hbl : b < l.length
     ·have d8 : decide (b < (l.length : Int)) = true := decide_eq_true hbl
      obtain ⟨ad2, hA, hxi⟩ := Kd.at_int (Kd.C_below HC.out (pw_below_drewN (Below.refl _ _) m1)) b hx0 hbl
      cases hA
      by_cases hq : rd l b = 34
      ·have f34 : (rd l b != 34) = false := by simp [hq]
       have HQ := Aside0.mk hq
       clear hq hb0
       go_wp2_with fail
       go_meet
       case rel => exact ⟨b, rfl, ⟨b1, b2, .inr (.inl HQ.out)⟩, HTB, by first | exact ⟨_, rfl⟩ | (repeat (first | exact Drawn0.refl _ | apply Drawn0.step))⟩
      ·have f34 : (rd l b != 34) = true := bne_iff_ne.mpr hq
       by_cases hq2 : rd l b = 92
       ·have f92 : (rd l b != 92) = false := by simp [hq2]
        have HQ := Aside0.mk hq2
        clear hq hq2 hb0
        go_wp2_with fail
        go_meet
        case rel => exact ⟨b, rfl, ⟨b1, b2, .inr (.inr HQ.out)⟩, HTB, by first | exact ⟨_, rfl⟩ | (repeat (first | exact Drawn0.refl _ | apply Drawn0.step))⟩
       ·have f92 : (rd l b != 92) = true := bne_iff_ne.mpr hq2
        have h1 := HH.out.byt _ (rd_mem (l := l) hx0 hbl)
        have HTB2 := Aside0.mk (ta_other HTB.out HT.out h0 (by omega) (by have := HLEN.out; omega) (by rw [rdL hx0 hbl]; exact hq) (by rw [rdL hx0 hbl]; exact hq2) (by rw [rdL hx0 hbl]; omega) (fun h => by cases h.1) (fun h => by cases h.1))
        clear hq hq2 h1 hb0
        go_wp2_with fail
        go_roundg g1
        case measure => omega
        case rel => exact ⟨b + 1, by first | rfl | rw [e1], ⟨by omega, by omega, by omega⟩, HTB2, by first | exact ⟨_, rfl⟩ | (repeat (first | exact Drawn0.refl _ | apply Drawn0.step))⟩
     ·have d8 : decide (b < (l.length : Int)) = false := decide_eq_false hbl
      have HBL : Aside0 (b = l.length) := ⟨by omega⟩
      clear hbl hb0
      go_wp2_with fail
      go_meet
      case rel => exact ⟨b, rfl, ⟨b1, b2, .inl HBL.out⟩, HTB, by first | exact ⟨_, rfl⟩ | (repeat (first | exact Drawn0.refl _ | apply Drawn0.step))⟩
   case rest =>
    clear hb0 HB0 HTB0
    obtain ⟨b, rfl, HB, HTB, ⟨m1, rfl⟩⟩ := hcut
    obtain ⟨b1, b2, b3⟩ := HB.out
    have hx0 : 0 ≤ b := by omega
    have e1 : wrap64 (b + 1) = b + 1 := by unfold wrap64; omega
    by_cases hbl : b < l.length
    ·have d8 : decide ((l.length : Int) ≤ b) = false := decide_eq_false (by omega)
     obtain ⟨ad2, hA, hxi⟩ := Kd.at_int (Kd.C_below HC.out (pw_below_drewN (Below.refl _ _) m1)) b hx0 hbl
     cases hA
     by_cases hq : rd l b = 34
     ·have f34 : (rd l b == 34) = true := beq_iff_eq.mpr hq
      have HRES := Aside0.mk (ta_quote HTB.out HT.out h0 (by omega) (by have := HLEN.out; omega) (by rw [rdL hx0 hbl]; exact hq))
      clear hq b1 b2 b3 y1 y2 y3
      go_wp2_with fail
      go_ret
      exact ⟨⟨b + 1, by first | rfl | simp [e1], .inr ⟨_, HRES.out⟩⟩, by first | exact ⟨_, rfl⟩ | (repeat (first | exact Drawn0.refl _ | apply Drawn0.step))⟩
     ·have f34 : (rd l b == 34) = false := beq_eq_false_iff_ne.mpr hq
      have h92 : rd l b = 92 := by omega
      have HCALL : Aside0 (∀ n, Calls Tryd.prog 71 #[.slice (some ad) l.length c, .int .i64 (b + 1)] (w.drewN n) fun e w' => e = .returned (.int .i64 (escI (l ++ [0]) (b + 1))) ∧ Drawn0 (w.drewN n) w') := ⟨fun n => by
       have := esc_call_l (y := b + 1) (Kd.C_below HC.out (pw_below_drewN (Below.refl _ _) n)) hcap hsm (by omega) (by omega)
       rw [escL_L HT.out (by omega) (by omega)] at this
       exact this⟩
      cases hd : escF (l ++ [0]) (b + 1) with
      | none =>
       have he : escI (l ++ [0]) (b + 1) = -1 := by unfold escI; rw [hd]
       rw [he] at HCALL
       clear hd he hq h92 b3
       go_wp2_with fail
       with_reducible refine (HCALL.out _).mono ?_
       rintro e w1 ⟨rfl, ⟨m2, rfl⟩⟩
       go_wp2_with fail
       go_ret
       exact ⟨⟨-1, rfl, .inl rfl⟩, by first | exact ⟨_, rfl⟩ | (repeat (first | exact Drawn0.refl _ | apply Drawn0.step))⟩
      | some d =>
       have hg := escF_gt HT.out (x := b + 1) (by omega) (by have := HLEN.out; omega) hd
       have HTA2 := Aside0.mk (ta_esc HTB.out HT.out h0 (by omega) (by have := HLEN.out; omega) (by rw [rdL hx0 hbl]; exact h92) hd ⟨by omega, hg.2⟩)
       have he : escI (l ++ [0]) (b + 1) = d := by unfold escI; rw [hd]
       rw [he] at HCALL
       have hd0 : ¬ d < 0 := by omega
       have HD : Aside0 (b + 1 < d ∧ d ≤ l.length) := ⟨hg.1, by have := HLEN.out; omega⟩
       clear hd he hq h92 b3 hg
       go_wp2_with fail
       with_reducible refine (HCALL.out _).mono ?_
       rintro e w1 ⟨rfl, ⟨m2, rfl⟩⟩
       go_wp2_with fail
       go_roundg g0
       case measure => omega
       case rel => exact ⟨d, rfl, ⟨by have := HD.out; omega, by have := HD.out; omega, by have := HD.out; omega⟩, HTA2, by first | exact ⟨_, rfl⟩ | (repeat (first | exact Drawn0.refl _ | apply Drawn0.step))⟩
    ·have d8 : decide ((l.length : Int) ≤ b) = true := decide_eq_true (by omega)
     clear hbl b1 b2 b3 y1 y2 y3
     go_wp2_with fail
     go_ret
     exact ⟨⟨-1, rfl, .inl rfl⟩, by first | exact ⟨_, rfl⟩ | (repeat (first | exact Drawn0.refl _ | apply Drawn0.step))⟩
end
end Go.Proofs.YtbikiibpjdiaaaaDoor.Err
/- The walk over compact JSON: where a number ends. -/
namespace Go.Proofs.YtbikiibpjdiaaaaDoor.Err
open Go.RowKit Go.Proofs.YtbikiibpjdiaaaaDoorW.PrintWords Go.Proofs.YtbikiibpjdiaaaaDoorW.PrintLast Go.Proofs.YtbikiibpjdiaaaaDoorW.PrintMore Go.Proofs.YtbikiibpjdiaaaaDoor.Dig Go.Proofs.YtbikiibpjdiaaaaDoor.Tab
set_option linter.unusedVariables false
/-- Where a number ends that stands at x; nothing is said of -1. -/
def NE (l : List Int) (x r : Int) : Prop := r = -1 ∨ ∃ T, fnum (l ++ [0]) x = some (r, T)
section
variable {w w' : World} {A : Option Addr} {ad : Addr} {c : Nat} {l : List Int} {x y z : Int}
theorem restL (hL : Txt (l ++ [0])) (h0 : 0 ≤ x) (hx : x ≤ l.length) : ((rest (l ++ [0]) x).length : Int) = l.length - x := by
 rw [rest_len h0 (by rw [List.length_append, List.length_singleton]; omega), List.length_append, List.length_singleton]; omega
theorem restR (hL : Txt (l ++ [0])) (h0 : 0 ≤ x) (hxy : x ≤ y) (hy : y < l.length) : rd (rest (l ++ [0]) x) ((y - x).toNat : Nat) = rd l y := by
 have hr := restL hL h0 (by omega)
 rw [rest_rd h0 (by rw [List.length_append, List.length_singleton]; omega) _ (by omega), show x + (((y - x).toNat : Nat) : Int) = y by omega, rdL (by omega) hy]
theorem num_in (hL : Txt (l ++ [0])) (h0 : 0 ≤ x) (hxy : x ≤ y) (hy : y < l.length) (hd : 48 ≤ rd l y ∧ rd l y ≤ 57) : dEnd (rest (l ++ [0]) x) (y - x).toNat = dEnd (rest (l ++ [0]) x) (y + 1 - x).toNat := by
 have hr := restL hL h0 (by omega)
 rw [dEnd_step _ _ (by omega), restR hL h0 hxy hy, if_pos ((isD_iff _).2 hd), show (y + 1 - x).toNat = (y - x).toNat + 1 by omega]
theorem num_out (hL : Txt (l ++ [0])) (h0 : 0 ≤ x) (hxy : x ≤ y) (hy : y ≤ l.length) (hd : y < l.length → ¬ (48 ≤ rd l y ∧ rd l y ≤ 57)) : dEnd (rest (l ++ [0]) x) (y - x).toNat = (y - x).toNat := by
 have hr := restL hL h0 (by omega)
 by_cases h : y < l.length
 ·rw [dEnd_step _ _ (by omega), restR hL h0 hxy h, if_neg (fun e => hd h ((isD_iff _).1 e))]
 ·exact dEnd_end _ _ (by omega)
theorem num_gt (hL : Txt (l ++ [0])) (h0 : 0 ≤ x) (hxy : x ≤ y) (hy : y < l.length) (hd : 48 ≤ rd l y ∧ rd l y ≤ 57) : dEnd (rest (l ++ [0]) x) (y - x).toNat ≠ (y - x).toNat := by
 have hr := restL hL h0 (by omega)
 have := dEnd_gt (rest (l ++ [0]) x) (y - x).toNat (by omega) (by rw [restR hL h0 hxy hy]; exact (isD_iff _).2 hd)
 omega
theorem num_sign (hL : Txt (l ++ [0])) (h0 : 0 ≤ x) (hx : x < l.length) : scanNum (rest (l ++ [0]) x) = r1 (rest (l ++ [0]) x) (if rd l x = 45 then x + 1 - x else x - x).toNat := by
 have hr := restL hL h0 (by omega)
 have h := restR hL h0 (Int.le_refl x) hx
 rw [show (x - x).toNat = 0 by omega] at h
 unfold scanNum
 rw [show (((0 : Nat) : Nat) : Int) = 0 from rfl] at h
 by_cases hc : rd l x = 45
 ·rw [if_pos ⟨by omega, by rw [h]; exact hc⟩, if_pos hc, show (x + 1 - x).toNat = 1 by omega]
 ·rw [if_neg (fun e => hc (by rw [← h]; exact e.2)), if_neg hc, show (x - x).toNat = 0 by omega]
theorem num_int (hL : Txt (l ++ [0])) (h0 : 0 ≤ x) (hxy : x ≤ y) (hy : y < l.length) (hd : 48 ≤ rd l y ∧ rd l y ≤ 57) : r1 (rest (l ++ [0]) x) (y - x).toNat = if rd l y = 48 then r2 (rest (l ++ [0]) x) (y + 1 - x).toNat else r2 (rest (l ++ [0]) x) (dEnd (rest (l ++ [0]) x) (y - x).toNat) := by
 unfold r1
 rw [if_neg (num_gt hL h0 hxy hy hd), restR hL h0 hxy hy, show (y + 1 - x).toNat = (y - x).toNat + 1 by omega]
theorem num_dot (hL : Txt (l ++ [0])) (h0 : 0 ≤ x) (hxy : x ≤ y) (hy : y + 1 < l.length) (hc : rd l y = 46) (hd : 48 ≤ rd l (y + 1) ∧ rd l (y + 1) ≤ 57) : r2 (rest (l ++ [0]) x) (y - x).toNat = r4 (rest (l ++ [0]) x) (dEnd (rest (l ++ [0]) x) (y + 1 - x).toNat) := by
 have hr := restL hL h0 (by omega)
 have hg := num_gt hL h0 (show x ≤ y + 1 by omega) hy hd
 unfold r2 r3
 rw [restR hL h0 hxy (by omega), decide_eq_true ⟨by omega, hc⟩, if_pos rfl, show (y - x).toNat + 1 = (y + 1 - x).toNat by omega, if_neg hg]
theorem num_nodot (hL : Txt (l ++ [0])) (h0 : 0 ≤ x) (hxy : x ≤ y) (hy : y ≤ l.length) (hc : y < l.length → rd l y ≠ 46) : r2 (rest (l ++ [0]) x) (y - x).toNat = r4 (rest (l ++ [0]) x) (y - x).toNat := by
 have hr := restL hL h0 (by omega)
 unfold r2 r3
 rw [decide_eq_false (fun e => ?_)]
 ·rfl
 ·have h : y < l.length := by omega
  exact hc h (by rw [← restR hL h0 hxy h]; exact e.2)
theorem num_noexp (hL : Txt (l ++ [0])) (h0 : 0 ≤ x) (hxy : x ≤ y) (hy : y ≤ l.length) (hc : y < l.length → rd l y ≠ 101 ∧ rd l y ≠ 69) : r4 (rest (l ++ [0]) x) (y - x).toNat = ((y - x).toNat, 0) := by
 have hr := restL hL h0 (by omega)
 unfold r4 r5
 rw [decide_eq_false (fun e => ?_)]
 ·rfl
 ·have h : y < l.length := by omega
  have h2 := e.2
  rw [restR hL h0 hxy h] at h2
  have := hc h
  omega
theorem num_exp (hL : Txt (l ++ [0])) (h0 : 0 ≤ x) (hxy : x ≤ y) (hy : y < l.length) (hc : rd l y = 101 ∨ rd l y = 69) (hz : z = if y + 1 < l.length ∧ (rd l (y + 1) = 43 ∨ rd l (y + 1) = 45) then y + 2 else y + 1) (hzl : z < l.length) (hd : 48 ≤ rd l z ∧ rd l z ≤ 57) :
  r4 (rest (l ++ [0]) x) (y - x).toNat = (dEnd (rest (l ++ [0]) x) (z - x).toNat, 0) := by
 have hr := restL hL h0 (by omega)
 have hzy : y + 1 ≤ z := by rw [hz]; split <;> omega
 have hg := num_gt hL h0 (show x ≤ z by omega) hzl hd
 have h6 : r6 (rest (l ++ [0]) x) (z - x).toNat = (dEnd (rest (l ++ [0]) x) (z - x).toNat, 0) := by unfold r6; rw [if_neg hg]
 unfold r4 r5
 rw [restR hL h0 hxy hy, decide_eq_true ⟨by omega, hc⟩, if_pos rfl]
 by_cases hs : y + 1 < l.length ∧ (rd l (y + 1) = 43 ∨ rd l (y + 1) = 45)
 ·rw [if_pos hs] at hz
  have hR := restR hL h0 (show x ≤ y + 1 by omega) hs.1
  rw [show (y + 1 - x).toNat = (y - x).toNat + 1 by omega] at hR
  rw [hR, if_pos ⟨by omega, hs.2⟩, ← h6, show (y - x).toNat + 2 = (z - x).toNat by omega]
 ·rw [if_neg hs] at hz
  rw [if_neg (fun e => hs ⟨by omega, by
   have hR := restR hL h0 (show x ≤ y + 1 by omega) (by omega)
   rw [show (y + 1 - x).toNat = (y - x).toNat + 1 by omega] at hR
   rw [← hR]; exact e.2⟩), ← h6, show (y - x).toNat + 1 = (z - x).toNat by omega]
theorem num_done (hxy : x ≤ y) (h : scanNum (rest (l ++ [0]) x) = ((y - x).toNat, 0)) : NE l x y := by
 refine .inr ⟨seg (l ++ [0]) x y, ?_⟩
 unfold fnum
 rw [h, if_pos rfl, show x + (((y - x).toNat : Nat) : Int) = y by omega]
set_option maxRecDepth 100000 in
set_option maxHeartbeats 8000000 in
theorem numberEnd (hC : Kd.C (Kd.int .u8) w A l.length l) (hcap : l.length ≤ c) (hH : High l) (h0 : 0 ≤ x) (hx : x < l.length) :
  Calls Tryd.prog 54 #[.slice A l.length c, .int .i64 x] w fun e w' => (∃ r, e = .returned (.int .i64 r) ∧ NE l x r) ∧ Drawn0 w w' := by
 have hsm := hH.len
 obtain ⟨ad, rfl, hx0⟩ := Kd.at_int hC x h0 hx
 have HL := Aside0.mk hH.txt
 have HC := Aside0.mk hC
 obtain ⟨S, hS⟩ : ∃ S, S = scanNum (rest (l ++ [0]) x) := ⟨_, rfl⟩
 have HS := Aside0.mk hS
 have e0 : wrap64 (x + 1) = x + 1 := by unfold wrap64; omega
 clear hC hH hS
 go_enter Tryd.func54, Tryd.ntmps54
 go_upto_if 12 with (fail)
 go_cut [1] from 7 to 182 (fun v1 wx => ∃ y : Int, v1 = .int .i64 y ∧ Aside0 (x ≤ y ∧ y < l.length ∧ S = r1 (rest (l ++ [0]) x) (y - x).toNat) ∧ Drawn0 w wx)
 case first =>
  as_aux_lemma =>
   have hsg := num_sign HL.out h0 hx
   by_cases hc : rd l x = 45
   ·rw [if_pos hc] at hsg
    have HSG := Aside0.mk (HS.out.trans hsg)
    have f45 : (rd l x == 45) = true := beq_iff_eq.mpr hc
    by_cases hn : x + 1 < l.length
    ·have d1 : decide ((l.length : Int) ≤ x + 1) = false := decide_eq_false (by omega)
     clear hsg hc
     go_wp2_with fail
     go_meet
     case rel => exact ⟨x + 1, by first | rfl | rw [e0], ⟨by omega, hn, HSG.out⟩, by first | exact ⟨_, rfl⟩ | (repeat (first | exact Drawn0.refl _ | apply Drawn0.step))⟩
    ·have d1 : decide ((l.length : Int) ≤ x + 1) = true := decide_eq_true (by omega)
     clear hsg hc
     go_wp2_with fail
     go_ret
     exact ⟨⟨-1, rfl, .inl rfl⟩, by first | exact ⟨_, rfl⟩ | (repeat (first | exact Drawn0.refl _ | apply Drawn0.step))⟩
   ·rw [if_neg hc] at hsg
    have HSG := Aside0.mk (HS.out.trans hsg)
    have f45 : (rd l x == 45) = false := beq_eq_false_iff_ne.mpr hc
    clear hsg hc
    go_wp2_with fail
    go_meet
    case rel => exact ⟨x, rfl, ⟨by omega, hx, HSG.out⟩, by first | exact ⟨_, rfl⟩ | (repeat (first | exact Drawn0.refl _ | apply Drawn0.step))⟩
 case rest =>
  obtain ⟨a, rfl, HA, ⟨m0, rfl⟩⟩ := hcut
  obtain ⟨a1, a2, a3⟩ := HA.out
  have ha0 : 0 ≤ a := by omega
  have ea : wrap64 (a + 1) = a + 1 := by unfold wrap64; omega
  clear a3 hx0
  go_upto_block 0 with (fail)
  go_cut [1] from 7 to 182 (fun v1 wx => ∃ y : Int, v1 = .int .i64 y ∧ Aside0 (x ≤ y ∧ y ≤ l.length ∧ S = r2 (rest (l ++ [0]) x) (y - x).toNat) ∧ Drawn0 w wx)
  case first =>
   as_aux_lemma =>
    obtain ⟨ad2, hA, hxi⟩ := Kd.at_int (Kd.C_below HC.out (pw_below_drewN (Below.refl _ _) m0)) a ha0 a2
    cases hA
    by_cases h48 : rd l a = 48
    ·have HN : Aside0 (S = r2 (rest (l ++ [0]) x) (a + 1 - x).toNat) := ⟨by rw [HA.out.2.2, num_int HL.out h0 a1 a2 (by omega), if_pos h48]⟩
     have f48 : (rd l a == 48) = true := beq_iff_eq.mpr h48
     clear h48
     go_wp2_with fail
     go_meet
     case rel => exact ⟨a + 1, by first | rfl | rw [ea], ⟨by omega, by omega, HN.out⟩, by first | exact ⟨_, rfl⟩ | (repeat (first | exact Drawn0.refl _ | apply Drawn0.step))⟩
    ·have f48 : (rd l a == 48) = false := beq_eq_false_iff_ne.mpr h48
     by_cases hd : 49 ≤ rd l a ∧ rd l a ≤ 57
     ·have c1 : decide (49 ≤ rd l a) = true := decide_eq_true hd.1
      have c2 : decide (rd l a ≤ 57) = true := decide_eq_true hd.2
      obtain ⟨DD, hDD⟩ : ∃ DD, DD = dEnd (rest (l ++ [0]) x) (a - x).toNat := ⟨_, rfl⟩
      have HNN : Aside0 (S = r2 (rest (l ++ [0]) x) DD) := ⟨by rw [HA.out.2.2, num_int HL.out h0 a1 a2 (by omega), if_neg h48, hDD]⟩
      have HD : Aside0 (dEnd (rest (l ++ [0]) x) (a + 1 - x).toNat = DD) := ⟨by rw [hDD, num_in HL.out h0 a1 a2 (by omega)]⟩
      clear hd h48 hDD
      go_wp2_with fail
      go_loopg [1] (l.length + 1) (fun kq v1 w' => ∃ y : Int, v1 = .int .i64 y ∧ Aside0 (a + 1 ≤ y ∧ y ≤ l.length ∧ (l.length : Int) + 1 ≤ y + kq ∧ dEnd (rest (l ++ [0]) x) (y - x).toNat = DD) ∧ Drawn0 w w')
      case atStart => exact ⟨a + 1, by first | rfl | rw [ea], ⟨by omega, by omega, by omega, HD.out⟩, by first | exact ⟨_, rfl⟩ | (repeat (first | exact Drawn0.refl _ | apply Drawn0.step))⟩
      case round =>
       as_aux_lemma =>
        obtain ⟨y, rfl, HY, ⟨m1, rfl⟩⟩ := hrel
        obtain ⟨y1, y2, y3, y4⟩ := HY.out
        obtain _ | g1 := gk
        ·exfalso; omega
        have hy0 : 0 ≤ y := by omega
        have e1 : wrap64 (y + 1) = y + 1 := by unfold wrap64; omega
        have HY4 := Aside0.mk y4
        by_cases hyl : y < l.length
        ·have d8 : decide (y < (l.length : Int)) = true := decide_eq_true hyl
         obtain ⟨ad2, hA, hxi⟩ := Kd.at_int (Kd.C_below HC.out (pw_below_drewN (Below.refl _ _) m1)) y hy0 hyl
         cases hA
         by_cases hd : 48 ≤ rd l y ∧ rd l y ≤ 57
         ·have c1 : decide (48 ≤ rd l y) = true := decide_eq_true hd.1
          have c2 : decide (rd l y ≤ 57) = true := decide_eq_true hd.2
          have HN := Aside0.mk ((num_in HL.out h0 (by omega) hyl hd).symm.trans y4)
          clear hd y4
          go_wp2_with fail
          go_roundg g1
          case measure => omega
          case rel => exact ⟨y + 1, by first | rfl | rw [e1], ⟨by omega, by omega, by omega, HN.out⟩, by first | exact ⟨_, rfl⟩ | (repeat (first | exact Drawn0.refl _ | apply Drawn0.step))⟩
         ·have HN := Aside0.mk (num_out HL.out h0 (by omega) y2 (fun _ => hd))
          by_cases h48 : 48 ≤ rd l y
          ·have c1 : decide (48 ≤ rd l y) = true := decide_eq_true h48
           have c2 : decide (rd l y ≤ 57) = false := decide_eq_false (by omega)
           clear hd y4 h48
           go_wp2_with fail
           go_meet
           case rel => exact ⟨y, rfl, ⟨by omega, y2, by rw [HNN.out, ← HY4.out, HN.out]⟩, by first | exact ⟨_, rfl⟩ | (repeat (first | exact Drawn0.refl _ | apply Drawn0.step))⟩
          ·have c1 : decide (48 ≤ rd l y) = false := decide_eq_false h48
           clear hd y4 h48
           go_wp2_with fail
           go_meet
           case rel => exact ⟨y, rfl, ⟨by omega, y2, by rw [HNN.out, ← HY4.out, HN.out]⟩, by first | exact ⟨_, rfl⟩ | (repeat (first | exact Drawn0.refl _ | apply Drawn0.step))⟩
        ·have d8 : decide (y < (l.length : Int)) = false := decide_eq_false hyl
         have HN := Aside0.mk (num_out HL.out h0 (by omega) y2 (fun h => absurd h hyl))
         clear hyl y4
         go_wp2_with fail
         go_meet
         case rel => exact ⟨y, rfl, ⟨by omega, y2, by rw [HNN.out, ← HY4.out, HN.out]⟩, by first | exact ⟨_, rfl⟩ | (repeat (first | exact Drawn0.refl _ | apply Drawn0.step))⟩
     ·have HD := Aside0.mk hd
      by_cases h49 : 49 ≤ rd l a
      ·have c1 : decide (49 ≤ rd l a) = true := decide_eq_true h49
       have c2 : decide (rd l a ≤ 57) = false := decide_eq_false (by omega)
       clear hd h48 h49
       go_wp2_with fail
       go_ret
       exact ⟨⟨-1, rfl, .inl rfl⟩, by first | exact ⟨_, rfl⟩ | (repeat (first | exact Drawn0.refl _ | apply Drawn0.step))⟩
      ·have c1 : decide (49 ≤ rd l a) = false := decide_eq_false h49
       clear hd h48 h49
       go_wp2_with fail
       go_ret
       exact ⟨⟨-1, rfl, .inl rfl⟩, by first | exact ⟨_, rfl⟩ | (repeat (first | exact Drawn0.refl _ | apply Drawn0.step))⟩
  case rest =>
   clear HA a1 a2 ha0 ea
   obtain ⟨a, rfl, HA, ⟨m0, rfl⟩⟩ := hcut
   obtain ⟨a1, a2, a3⟩ := HA.out
   have ha0 : 0 ≤ a := by omega
   have ea : wrap64 (a + 1) = a + 1 := by unfold wrap64; omega
   clear a3
   go_upto_region 13 with (fail)
   go_cut [69] from 7 to 182 (fun vb wx => ∃ bb : Bool, vb = .bool bb ∧ Aside0 (bb = decide (a < (l.length : Int) ∧ (rd l (a) = 46))) ∧ Drawn0 w wx)
   case first =>
    as_aux_lemma =>
     by_cases hal : a < (l.length : Int)
     ·obtain ⟨ad2, hA, hxi⟩ := Kd.at_int (Kd.C_below HC.out (pw_below_drewN (Below.refl _ _) m0)) a (by omega) hal
      cases hA
      have d1 : decide (a < (l.length : Int)) = true := decide_eq_true hal
      by_cases h46 : rd l (a) = 46
      ·have hbb : Aside0 (true = decide (a < (l.length : Int) ∧ (rd l (a) = 46))) := ⟨(decide_eq_true ⟨hal, by omega⟩).symm⟩
       have f46 : (rd l (a) == 46) = true := beq_iff_eq.mpr h46
       clear h46
       go_wp2_with fail
       go_meet
       case rel => exact ⟨true, rfl, hbb, by first | exact ⟨_, rfl⟩ | (repeat (first | exact Drawn0.refl _ | apply Drawn0.step))⟩
      ·have f46 : (rd l (a) == 46) = false := beq_eq_false_iff_ne.mpr h46
       have hbb : Aside0 (false = decide (a < (l.length : Int) ∧ (rd l (a) = 46))) := ⟨(decide_eq_false (by omega)).symm⟩
       clear h46
       go_wp2_with fail
       go_meet
       case rel => exact ⟨false, rfl, hbb, by first | exact ⟨_, rfl⟩ | (repeat (first | exact Drawn0.refl _ | apply Drawn0.step))⟩
     ·have d1 : decide (a < (l.length : Int)) = false := decide_eq_false hal
      have hbb : Aside0 (false = decide (a < (l.length : Int) ∧ (rd l (a) = 46))) := ⟨(decide_eq_false (by omega)).symm⟩
      clear hal
      go_wp2_with fail
      go_meet
      case rel => exact ⟨false, rfl, hbb, by first | exact ⟨_, rfl⟩ | (repeat (first | exact Drawn0.refl _ | apply Drawn0.step))⟩
   case rest =>
    obtain ⟨bb, rfl, HBB, ⟨m0, rfl⟩⟩ := hcut
    go_upto_if 69 with (fail)
    go_cut [1] from 7 to 182 (fun v1 wx => ∃ y : Int, v1 = .int .i64 y ∧ Aside0 (x ≤ y ∧ y ≤ l.length ∧ S = r4 (rest (l ++ [0]) x) (y - x).toNat) ∧ Drawn0 w wx)
    case first =>
     as_aux_lemma =>
      obtain _ | _ := bb
      ·have HS4 : Aside0 (S = r4 (rest (l ++ [0]) x) (a - x).toNat) := ⟨by rw [HA.out.2.2, num_nodot HL.out h0 a1 a2 (fun h e => by have := of_decide_eq_false HBB.out.symm; omega)]⟩
       go_wp2_with fail
       go_meet
       case rel => exact ⟨a, rfl, ⟨a1, a2, HS4.out⟩, by first | exact ⟨_, rfl⟩ | (repeat (first | exact Drawn0.refl _ | apply Drawn0.step))⟩
      ·have hdot := of_decide_eq_true HBB.out.symm
       have hal := hdot.1
       have h46 := Aside0.mk hdot.2
       clear hdot
       by_cases hn : (a + 1) < (l.length : Int)
       ·have d1 : decide ((l.length : Int) ≤ (a + 1)) = false := decide_eq_false (by omega)
        obtain ⟨ad2, hA, hxi⟩ := Kd.at_int (Kd.C_below HC.out (pw_below_drewN (Below.refl _ _) m0)) (a + 1) (by omega) hn
        cases hA
        by_cases hd : 48 ≤ rd l ((a + 1)) ∧ rd l ((a + 1)) ≤ 57
        ·have c1 : decide (rd l ((a + 1)) < 48) = false := decide_eq_false (by omega)
         have c2 : decide (57 < rd l ((a + 1))) = false := decide_eq_false (by omega)
         obtain ⟨DD, hDD⟩ : ∃ DD, DD = dEnd (rest (l ++ [0]) x) ((a + 1) - x).toNat := ⟨_, rfl⟩
         have HNN : Aside0 (S = r4 (rest (l ++ [0]) x) DD) := ⟨by rw [HA.out.2.2, num_dot HL.out h0 a1 hn h46.out hd, hDD]⟩
         have HD : Aside0 (dEnd (rest (l ++ [0]) x) ((a + 1) - x).toNat = DD) := ⟨hDD.symm⟩
         clear hd hDD
         go_wp2_with fail
         go_loopg [1] (l.length + 1) (fun kq v1 w' => ∃ y : Int, v1 = .int .i64 y ∧ Aside0 ((a + 1) ≤ y ∧ y ≤ l.length ∧ (l.length : Int) + 1 ≤ y + kq ∧ dEnd (rest (l ++ [0]) x) (y - x).toNat = DD) ∧ Drawn0 w w')
         case atStart => exact ⟨(a + 1), by first | rfl | rw [ea], ⟨by omega, by omega, by omega, HD.out⟩, by first | exact ⟨_, rfl⟩ | (repeat (first | exact Drawn0.refl _ | apply Drawn0.step))⟩
         case round =>
          as_aux_lemma =>
           obtain ⟨y, rfl, HY, ⟨m1, rfl⟩⟩ := hrel
           obtain ⟨y1, y2, y3, y4⟩ := HY.out
           obtain _ | g1 := gk
           ·exfalso; omega
           have hy0 : 0 ≤ y := by omega
           have e1 : wrap64 (y + 1) = y + 1 := by unfold wrap64; omega
           have HY4 := Aside0.mk y4
           by_cases hyl : y < l.length
           ·have d8 : decide (y < (l.length : Int)) = true := decide_eq_true hyl
            obtain ⟨ad2, hA, hxi⟩ := Kd.at_int (Kd.C_below HC.out (pw_below_drewN (Below.refl _ _) m1)) y hy0 hyl
            cases hA
            by_cases hd : 48 ≤ rd l y ∧ rd l y ≤ 57
            ·have c1 : decide (48 ≤ rd l y) = true := decide_eq_true hd.1
             have c2 : decide (rd l y ≤ 57) = true := decide_eq_true hd.2
             have HN := Aside0.mk ((num_in HL.out h0 (by omega) hyl hd).symm.trans y4)
             clear hd y4
             go_wp2_with fail
             go_roundg g1
             case measure => omega
             case rel => exact ⟨y + 1, by first | rfl | rw [e1], ⟨by omega, by omega, by omega, HN.out⟩, by first | exact ⟨_, rfl⟩ | (repeat (first | exact Drawn0.refl _ | apply Drawn0.step))⟩
            ·have HN := Aside0.mk (num_out HL.out h0 (by omega) y2 (fun _ => hd))
             by_cases h48 : 48 ≤ rd l y
             ·have c1 : decide (48 ≤ rd l y) = true := decide_eq_true h48
              have c2 : decide (rd l y ≤ 57) = false := decide_eq_false (by omega)
              clear hd y4 h48
              go_wp2_with fail
              go_meet
              case rel => exact ⟨y, rfl, ⟨by omega, y2, by rw [HNN.out, ← HY4.out, HN.out]⟩, by first | exact ⟨_, rfl⟩ | (repeat (first | exact Drawn0.refl _ | apply Drawn0.step))⟩
             ·have c1 : decide (48 ≤ rd l y) = false := decide_eq_false h48
              clear hd y4 h48
              go_wp2_with fail
              go_meet
              case rel => exact ⟨y, rfl, ⟨by omega, y2, by rw [HNN.out, ← HY4.out, HN.out]⟩, by first | exact ⟨_, rfl⟩ | (repeat (first | exact Drawn0.refl _ | apply Drawn0.step))⟩
           ·have d8 : decide (y < (l.length : Int)) = false := decide_eq_false hyl
            have HN := Aside0.mk (num_out HL.out h0 (by omega) y2 (fun h => absurd h hyl))
            clear hyl y4
            go_wp2_with fail
            go_meet
            case rel => exact ⟨y, rfl, ⟨by omega, y2, by rw [HNN.out, ← HY4.out, HN.out]⟩, by first | exact ⟨_, rfl⟩ | (repeat (first | exact Drawn0.refl _ | apply Drawn0.step))⟩
        ·by_cases h48 : rd l ((a + 1)) < 48
         ·have c1 : decide (rd l ((a + 1)) < 48) = true := decide_eq_true h48
          clear hd h48
          go_wp2_with fail
          go_ret
          exact ⟨⟨-1, rfl, .inl rfl⟩, by first | exact ⟨_, rfl⟩ | (repeat (first | exact Drawn0.refl _ | apply Drawn0.step))⟩
         ·have c1 : decide (rd l ((a + 1)) < 48) = false := decide_eq_false h48
          have c2 : decide (57 < rd l ((a + 1))) = true := decide_eq_true (by omega)
          clear hd h48
          go_wp2_with fail
          go_ret
          exact ⟨⟨-1, rfl, .inl rfl⟩, by first | exact ⟨_, rfl⟩ | (repeat (first | exact Drawn0.refl _ | apply Drawn0.step))⟩
       ·have d1 : decide ((l.length : Int) ≤ (a + 1)) = true := decide_eq_true (by omega)
        clear hn
        go_wp2_with fail
        go_ret
        exact ⟨⟨-1, rfl, .inl rfl⟩, by first | exact ⟨_, rfl⟩ | (repeat (first | exact Drawn0.refl _ | apply Drawn0.step))⟩
    case rest =>
     clear HA a1 a2 ha0 ea HBB
     obtain ⟨a, rfl, HA, ⟨m0, rfl⟩⟩ := hcut
     obtain ⟨a1, a2, a3⟩ := HA.out
     have ha0 : 0 ≤ a := by omega
     have ea : wrap64 (a + 1) = a + 1 := by unfold wrap64; omega
     have ea2 : wrap64 (a + 1 + 1) = a + 1 + 1 := by unfold wrap64; omega
     clear a3
     go_upto_region 19 with (fail)
     go_cut [124] from 7 to 182 (fun vb wx => ∃ bb : Bool, vb = .bool bb ∧ Aside0 (bb = decide (a < (l.length : Int) ∧ (rd l (a) = 101 ∨ rd l (a) = 69))) ∧ Drawn0 w wx)
     case first =>
      as_aux_lemma =>
       by_cases hal : a < (l.length : Int)
       ·obtain ⟨ad2, hA, hxi⟩ := Kd.at_int (Kd.C_below HC.out (pw_below_drewN (Below.refl _ _) m0)) a (by omega) hal
        cases hA
        have d1 : decide (a < (l.length : Int)) = true := decide_eq_true hal
        by_cases h101 : rd l (a) = 101
        ·have hbb : Aside0 (true = decide (a < (l.length : Int) ∧ (rd l (a) = 101 ∨ rd l (a) = 69))) := ⟨(decide_eq_true ⟨hal, by omega⟩).symm⟩
         have f101 : (rd l (a) == 101) = true := beq_iff_eq.mpr h101
         clear h101
         go_wp2_with fail
         go_meet
         case rel => exact ⟨true, rfl, hbb, by first | exact ⟨_, rfl⟩ | (repeat (first | exact Drawn0.refl _ | apply Drawn0.step))⟩
        ·have f101 : (rd l (a) == 101) = false := beq_eq_false_iff_ne.mpr h101
         by_cases h69 : rd l (a) = 69
         ·have hbb : Aside0 (true = decide (a < (l.length : Int) ∧ (rd l (a) = 101 ∨ rd l (a) = 69))) := ⟨(decide_eq_true ⟨hal, by omega⟩).symm⟩
          have f69 : (rd l (a) == 69) = true := beq_iff_eq.mpr h69
          clear h69
          go_wp2_with fail
          go_meet
          case rel => exact ⟨true, rfl, hbb, by first | exact ⟨_, rfl⟩ | (repeat (first | exact Drawn0.refl _ | apply Drawn0.step))⟩
         ·have f69 : (rd l (a) == 69) = false := beq_eq_false_iff_ne.mpr h69
          have hbb : Aside0 (false = decide (a < (l.length : Int) ∧ (rd l (a) = 101 ∨ rd l (a) = 69))) := ⟨(decide_eq_false (by omega)).symm⟩
          clear h101
          clear h69
          go_wp2_with fail
          go_meet
          case rel => exact ⟨false, rfl, hbb, by first | exact ⟨_, rfl⟩ | (repeat (first | exact Drawn0.refl _ | apply Drawn0.step))⟩
       ·have d1 : decide (a < (l.length : Int)) = false := decide_eq_false hal
        have hbb : Aside0 (false = decide (a < (l.length : Int) ∧ (rd l (a) = 101 ∨ rd l (a) = 69))) := ⟨(decide_eq_false (by omega)).symm⟩
        clear hal
        go_wp2_with fail
        go_meet
        case rel => exact ⟨false, rfl, hbb, by first | exact ⟨_, rfl⟩ | (repeat (first | exact Drawn0.refl _ | apply Drawn0.step))⟩
     case rest =>
      obtain ⟨bb, rfl, HBB, ⟨m0, rfl⟩⟩ := hcut
      go_upto_if 124 with (fail)
      go_cut [1] from 7 to 182 (fun v1 wx => ∃ y : Int, v1 = .int .i64 y ∧ Aside0 (x ≤ y ∧ y ≤ l.length ∧ S = ((y - x).toNat, 0)) ∧ Drawn0 w wx)
      case first =>
       as_aux_lemma =>
        obtain _ | _ := bb
        ·have HS4 : Aside0 (S = ((a - x).toNat, 0)) := ⟨by rw [HA.out.2.2, num_noexp HL.out h0 a1 a2 (fun h => by have := of_decide_eq_false HBB.out.symm; omega)]⟩
         go_wp2_with fail
         go_meet
         case rel => exact ⟨a, rfl, ⟨a1, a2, HS4.out⟩, by first | exact ⟨_, rfl⟩ | (repeat (first | exact Drawn0.refl _ | apply Drawn0.step))⟩
        ·have hexp := of_decide_eq_true HBB.out.symm
         have hal := hexp.1
         have HEXP := Aside0.mk hexp.2
         clear hexp
         go_upto_region 21 with (fail)
         go_cut [143] from 7 to 182 (fun vb wx => ∃ bb : Bool, vb = .bool bb ∧ Aside0 (bb = decide ((a + 1) < (l.length : Int) ∧ (rd l ((a + 1)) = 43 ∨ rd l ((a + 1)) = 45))) ∧ Drawn0 w wx)
         case first =>
          as_aux_lemma =>
           by_cases hal : (a + 1) < (l.length : Int)
           ·obtain ⟨ad2, hA, hxi⟩ := Kd.at_int (Kd.C_below HC.out (pw_below_drewN (Below.refl _ _) m0)) (a + 1) (by omega) hal
            cases hA
            have d1 : decide ((a + 1) < (l.length : Int)) = true := decide_eq_true hal
            by_cases h43 : rd l ((a + 1)) = 43
            ·have hbb : Aside0 (true = decide ((a + 1) < (l.length : Int) ∧ (rd l ((a + 1)) = 43 ∨ rd l ((a + 1)) = 45))) := ⟨(decide_eq_true ⟨hal, by omega⟩).symm⟩
             have f43 : (rd l ((a + 1)) == 43) = true := beq_iff_eq.mpr h43
             clear h43
             go_wp2_with fail
             go_meet
             case rel => exact ⟨true, rfl, hbb, by first | exact ⟨_, rfl⟩ | (repeat (first | exact Drawn0.refl _ | apply Drawn0.step))⟩
            ·have f43 : (rd l ((a + 1)) == 43) = false := beq_eq_false_iff_ne.mpr h43
             by_cases h45 : rd l ((a + 1)) = 45
             ·have hbb : Aside0 (true = decide ((a + 1) < (l.length : Int) ∧ (rd l ((a + 1)) = 43 ∨ rd l ((a + 1)) = 45))) := ⟨(decide_eq_true ⟨hal, by omega⟩).symm⟩
              have f45 : (rd l ((a + 1)) == 45) = true := beq_iff_eq.mpr h45
              clear h45
              go_wp2_with fail
              go_meet
              case rel => exact ⟨true, rfl, hbb, by first | exact ⟨_, rfl⟩ | (repeat (first | exact Drawn0.refl _ | apply Drawn0.step))⟩
             ·have f45 : (rd l ((a + 1)) == 45) = false := beq_eq_false_iff_ne.mpr h45
              have hbb : Aside0 (false = decide ((a + 1) < (l.length : Int) ∧ (rd l ((a + 1)) = 43 ∨ rd l ((a + 1)) = 45))) := ⟨(decide_eq_false (by omega)).symm⟩
              clear h43
              clear h45
              go_wp2_with fail
              go_meet
              case rel => exact ⟨false, rfl, hbb, by first | exact ⟨_, rfl⟩ | (repeat (first | exact Drawn0.refl _ | apply Drawn0.step))⟩
           ·have d1 : decide ((a + 1) < (l.length : Int)) = false := decide_eq_false hal
            have hbb : Aside0 (false = decide ((a + 1) < (l.length : Int) ∧ (rd l ((a + 1)) = 43 ∨ rd l ((a + 1)) = 45))) := ⟨(decide_eq_false (by omega)).symm⟩
            clear hal
            go_wp2_with fail
            go_meet
            case rel => exact ⟨false, rfl, hbb, by first | exact ⟨_, rfl⟩ | (repeat (first | exact Drawn0.refl _ | apply Drawn0.step))⟩
         case rest =>
          obtain ⟨bs, rfl, HBS, ⟨m0, rfl⟩⟩ := hcut
          go_upto_if 143 with (fail)
          go_cut [1] from 7 to 182 (fun v1 wx => ∃ z : Int, v1 = .int .i64 z ∧ Aside0 (z = if a + 1 < (l.length : Int) ∧ (rd l (a + 1) = 43 ∨ rd l (a + 1) = 45) then a + 2 else a + 1) ∧ Drawn0 w wx)
          case first =>
           as_aux_lemma =>
            obtain _ | _ := bs
            ·have HZ : Aside0 (a + 1 = if a + 1 < (l.length : Int) ∧ (rd l (a + 1) = 43 ∨ rd l (a + 1) = 45) then a + 2 else a + 1) := ⟨by rw [if_neg (of_decide_eq_false HBS.out.symm)]⟩
             go_wp2_with fail
             go_meet
             case rel => exact ⟨a + 1, by first | rfl | rw [ea], HZ, by first | exact ⟨_, rfl⟩ | (repeat (first | exact Drawn0.refl _ | apply Drawn0.step))⟩
            ·have HZ : Aside0 (a + 1 + 1 = if a + 1 < (l.length : Int) ∧ (rd l (a + 1) = 43 ∨ rd l (a + 1) = 45) then a + 2 else a + 1) := ⟨by rw [if_pos (of_decide_eq_true HBS.out.symm)]; omega⟩
             go_wp2_with fail
             go_meet
             case rel => exact ⟨a + 1 + 1, by first | rfl | rw [ea2] | rw [ea, ea2], HZ, by first | exact ⟨_, rfl⟩ | (repeat (first | exact Drawn0.refl _ | apply Drawn0.step))⟩
          case rest =>
           obtain ⟨z, rfl, HZ, ⟨m0, rfl⟩⟩ := hcut
           have hz : a + 1 ≤ z ∧ z ≤ a + 2 := by have := HZ.out; split at this <;> omega
           clear ea ea2 HBS
           by_cases hn : z < (l.length : Int)
           ·have d1 : decide ((l.length : Int) ≤ z) = false := decide_eq_false (by omega)
            obtain ⟨ad2, hA, hxi⟩ := Kd.at_int (Kd.C_below HC.out (pw_below_drewN (Below.refl _ _) m0)) z (by omega) hn
            cases hA
            by_cases hd : 48 ≤ rd l (z) ∧ rd l (z) ≤ 57
            ·have c1 : decide (rd l (z) < 48) = false := decide_eq_false (by omega)
             have c2 : decide (57 < rd l (z)) = false := decide_eq_false (by omega)
             obtain ⟨DD, hDD⟩ : ∃ DD, DD = dEnd (rest (l ++ [0]) x) (z - x).toNat := ⟨_, rfl⟩
             have HNN : Aside0 (S = (DD, 0)) := ⟨by rw [HA.out.2.2, num_exp HL.out h0 a1 hal HEXP.out HZ.out hn hd, hDD]⟩
             have HD : Aside0 (dEnd (rest (l ++ [0]) x) (z - x).toNat = DD) := ⟨hDD.symm⟩
             clear hd hDD
             go_wp2_with fail
             go_loopg [1] (l.length + 1) (fun kq v1 w' => ∃ y : Int, v1 = .int .i64 y ∧ Aside0 (z ≤ y ∧ y ≤ l.length ∧ (l.length : Int) + 1 ≤ y + kq ∧ dEnd (rest (l ++ [0]) x) (y - x).toNat = DD) ∧ Drawn0 w w')
             case atStart => exact ⟨z, by first | rfl | rw [ea], ⟨by omega, by omega, by omega, HD.out⟩, by first | exact ⟨_, rfl⟩ | (repeat (first | exact Drawn0.refl _ | apply Drawn0.step))⟩
             case round =>
              as_aux_lemma =>
               obtain ⟨y, rfl, HY, ⟨m1, rfl⟩⟩ := hrel
               obtain ⟨y1, y2, y3, y4⟩ := HY.out
               obtain _ | g1 := gk
               ·exfalso; omega
               have hy0 : 0 ≤ y := by omega
               have e1 : wrap64 (y + 1) = y + 1 := by unfold wrap64; omega
               have HY4 := Aside0.mk y4
               by_cases hyl : y < l.length
               ·have d8 : decide (y < (l.length : Int)) = true := decide_eq_true hyl
                obtain ⟨ad2, hA, hxi⟩ := Kd.at_int (Kd.C_below HC.out (pw_below_drewN (Below.refl _ _) m1)) y hy0 hyl
                cases hA
                by_cases hd : 48 ≤ rd l y ∧ rd l y ≤ 57
                ·have c1 : decide (48 ≤ rd l y) = true := decide_eq_true hd.1
                 have c2 : decide (rd l y ≤ 57) = true := decide_eq_true hd.2
                 have HN := Aside0.mk ((num_in HL.out h0 (by omega) hyl hd).symm.trans y4)
                 clear hd y4
                 go_wp2_with fail
                 go_roundg g1
                 case measure => omega
                 case rel => exact ⟨y + 1, by first | rfl | rw [e1], ⟨by omega, by omega, by omega, HN.out⟩, by first | exact ⟨_, rfl⟩ | (repeat (first | exact Drawn0.refl _ | apply Drawn0.step))⟩
                ·have HN := Aside0.mk (num_out HL.out h0 (by omega) y2 (fun _ => hd))
                 by_cases h48 : 48 ≤ rd l y
                 ·have c1 : decide (48 ≤ rd l y) = true := decide_eq_true h48
                  have c2 : decide (rd l y ≤ 57) = false := decide_eq_false (by omega)
                  clear hd y4 h48
                  go_wp2_with fail
                  go_meet
                  case rel => exact ⟨y, rfl, ⟨by omega, y2, by rw [HNN.out, ← HY4.out, HN.out]⟩, by first | exact ⟨_, rfl⟩ | (repeat (first | exact Drawn0.refl _ | apply Drawn0.step))⟩
                 ·have c1 : decide (48 ≤ rd l y) = false := decide_eq_false h48
                  clear hd y4 h48
                  go_wp2_with fail
                  go_meet
                  case rel => exact ⟨y, rfl, ⟨by omega, y2, by rw [HNN.out, ← HY4.out, HN.out]⟩, by first | exact ⟨_, rfl⟩ | (repeat (first | exact Drawn0.refl _ | apply Drawn0.step))⟩
               ·have d8 : decide (y < (l.length : Int)) = false := decide_eq_false hyl
                have HN := Aside0.mk (num_out HL.out h0 (by omega) y2 (fun h => absurd h hyl))
                clear hyl y4
                go_wp2_with fail
                go_meet
                case rel => exact ⟨y, rfl, ⟨by omega, y2, by rw [HNN.out, ← HY4.out, HN.out]⟩, by first | exact ⟨_, rfl⟩ | (repeat (first | exact Drawn0.refl _ | apply Drawn0.step))⟩
            ·by_cases h48 : rd l (z) < 48
             ·have c1 : decide (rd l (z) < 48) = true := decide_eq_true h48
              clear hd h48
              go_wp2_with fail
              go_ret
              exact ⟨⟨-1, rfl, .inl rfl⟩, by first | exact ⟨_, rfl⟩ | (repeat (first | exact Drawn0.refl _ | apply Drawn0.step))⟩
             ·have c1 : decide (rd l (z) < 48) = false := decide_eq_false h48
              have c2 : decide (57 < rd l (z)) = true := decide_eq_true (by omega)
              clear hd h48
              go_wp2_with fail
              go_ret
              exact ⟨⟨-1, rfl, .inl rfl⟩, by first | exact ⟨_, rfl⟩ | (repeat (first | exact Drawn0.refl _ | apply Drawn0.step))⟩
           ·have d1 : decide ((l.length : Int) ≤ z) = true := decide_eq_true (by omega)
            clear hn
            go_wp2_with fail
            go_ret
            exact ⟨⟨-1, rfl, .inl rfl⟩, by first | exact ⟨_, rfl⟩ | (repeat (first | exact Drawn0.refl _ | apply Drawn0.step))⟩
      case rest =>
       clear HA a1 a2 ha0 ea ea2 HBB
       obtain ⟨a, rfl, HA, ⟨m0, rfl⟩⟩ := hcut
       obtain ⟨a1, a2, a3⟩ := HA.out
       have HNE := Aside0.mk (num_done (l := l) a1 (by rw [← HS.out]; exact a3))
       clear a3
       go_wp2_with fail
       go_ret
       exact ⟨⟨a, rfl, HNE.out⟩, by first | exact ⟨_, rfl⟩ | (repeat (first | exact Drawn0.refl _ | apply Drawn0.step))⟩
end
end Go.Proofs.YtbikiibpjdiaaaaDoor.Err
/- What compact JSON is: the places of its automaton, and that nothing is left out of it. -/
namespace Go.Proofs.YtbikiibpjdiaaaaDoor.Err
open Go.RowKit Go.Proofs.YtbikiibpjdiaaaaDoorW.PrintWords Go.Proofs.YtbikiibpjdiaaaaDoorW.PrintLast Go.Proofs.YtbikiibpjdiaaaaDoorW.PrintMore
open Go.Proofs.YtbikiibpjdiaaaaDoor.Dig Go.Proofs.YtbikiibpjdiaaaaDoor.Tab
set_option linter.unusedVariables false
/-- Between two places nothing is left out, and what is escaped is escaped byte by byte. -/
def Even (q : ByteArray → ByteArray) (L : List Int) (i j : Int) : Prop :=
 ∀ esc : Bool, ∃ H, cw q L esc L.length i = H ++ cw q L esc L.length j ∧ ew L esc ((L.length : Int) - 1) L.length i = H ++ ew L esc ((L.length : Int) - 1) L.length j
/-- Ahead of a value. -/
def AtV (q : ByteArray → ByteArray) (L : List Int) (st : List Br) (i : Int) : Prop :=
 (out q L .val [] 0 = out q L .val st i ∨ (out q L .val [] 0 = out q L .item0 st i ∧ rd L i ≠ 93)) ∧ Even q L 0 i
/-- Behind a value. -/
def AtC (q : ByteArray → ByteArray) (L : List Int) (st : List Br) (i : Int) : Prop := out q L .val [] 0 = contO q L st i ∧ Even q L 0 i
/-- One value, of which nothing is left out. -/
def Good (q : ByteArray → ByteArray) (L : List Int) : Prop :=
 out q L .val [] 0 = .done ((L.length : Int) - 1) ∧ ∀ esc : Bool, cw q L esc L.length 0 = ew L esc ((L.length : Int) - 1) L.length 0
section
variable {q : ByteArray → ByteArray} {L l T : List Int} {x y i j k e c : Int} {esc : Bool} {st : List Br}
theorem Even.refl : Even q L i i := fun _ => ⟨[], rfl, rfl⟩
theorem Even.trans (h : Even q L i j) (h2 : Even q L j k) : Even q L i k := fun esc => by
 obtain ⟨H, a, b⟩ := h esc
 obtain ⟨H2, a2, b2⟩ := h2 esc
 exact ⟨H ++ H2, by rw [a, a2, List.append_assoc], by rw [b, b2, List.append_assoc]⟩
theorem even_run (hT : Txt L) (h0 : 0 ≤ x) (hxy : x ≤ y) (hy : y < L.length) (h : ∀ k, x ≤ k → k < y → rd L k ≠ 0 ∧ rd L k ≠ 34 ∧ ¬ isBlank (rd L k) ∧ ¬ sign (rd L k) ∧ rd L k ≠ 226) : Even q L x y := fun esc =>
 ⟨seg L x y, cw_run hT (y - x).toNat x y h0 hxy hy (fun k a b => ⟨(h k a b).1, (h k a b).2.1, (h k a b).2.2.1⟩) (by omega),
  ew_run (by omega) (y - x).toNat x y h0 hxy (by omega) (fun k a b => (h k a b).2.2.2) (by omega)⟩
theorem even_one (hT : Txt L) (h0 : 0 ≤ x) (h1 : x < (L.length : Int) - 1) (hc : rd L x = c) (h : c ≠ 0 ∧ c ≠ 34 ∧ ¬ isBlank c ∧ ¬ sign c ∧ c ≠ 226) : Even q L x (x + 1) :=
 even_run hT h0 (by omega) (by omega) (fun k a b => by rw [show k = x by omega, hc]; exact h)
theorem ew_cut (he : e ≤ (L.length : Int) - 1) (hq : rd L (e - 1) = 34) : ∀ (n : Nat) (x : Int), 0 ≤ x → x ≤ e → (e - x).toNat ≤ n →
  ew L esc ((L.length : Int) - 1) L.length x = ew L esc e L.length x ++ ew L esc ((L.length : Int) - 1) L.length e := by
 intro n
 induction n with
 | zero =>
  intro x h0 h1 h2
  have hxe : x = e := by omega
  rw [hxe, ew_at (e := e) (by omega) (by omega), if_neg (by omega)]
  rfl
 | succ n ih =>
  intro x h0 h1 h2
  by_cases hx : x < e
  ·rw [ew_at (e := (L.length : Int) - 1) (by omega) h0, if_pos (by omega), ew_at (e := e) (by omega) h0, if_pos hx]
   by_cases hs : esc = true ∧ sign (rd L x)
   ·rw [if_pos hs, if_pos hs, ih (x + 1) (by omega) (by omega) (by omega), List.append_assoc]
   ·rw [if_neg hs, if_neg hs]
    by_cases hl : esc = true ∧ lineEnd L x
    ·have h3 : x + 3 ≤ e := by
      obtain ⟨_, l1, l2, l3, l4⟩ := hl
      by_cases h31 : e - 1 = x
      ·rw [h31] at hq; omega
      ·by_cases h32 : e - 1 = x + 1
       ·rw [h32] at hq; omega
       ·omega
     rw [if_pos hl, if_pos hl, ih (x + 3) (by omega) (by omega) (by omega), List.append_assoc]
    ·rw [if_neg hl, if_neg hl, ih (x + 1) (by omega) (by omega) (by omega)]
     rfl
  ·have hxe : x = e := by omega
   rw [hxe, ew_at (e := e) (by omega) (by omega), if_neg (by omega)]
   rfl
theorem fs_last (hT : Txt L) : ∀ (n : Nat) (x e : Int) (T : List Int), 0 ≤ x → x < L.length → fs L esc n x = some (e, T) → rd L (e - 1) = 34 := by
 intro n
 induction n with
 | zero => intro x e T h0 h1 h; cases h
 | succ n ih =>
  intro x e T h0 h1 h
  unfold fs at h
  split at h
  ·rename_i hc
   cases h
   rw [show x + 1 - 1 = x by omega]
   exact hc
  split at h
  ·rename_i hc
   have hin := hT.inside h0 h1 (by omega)
   split at h
   ·cases h
   ·rename_i d hd
    have hg := escF_gt hT (by omega) (by omega) hd
    obtain ⟨⟨e1, T1⟩, hr, he⟩ := Option.map_eq_some_iff.1 h
    cases he
    exact ih d e1 T1 (by omega) hg.2 hr
  split at h
  ·cases h
  ·rename_i c1 c2 c3
   have hin := hT.inside h0 h1 (by omega)
   split at h
   ·obtain ⟨⟨e1, T1⟩, hr, he⟩ := Option.map_eq_some_iff.1 h
    cases he
    exact ih (x + 1) e1 T1 (by omega) (by omega) hr
   split at h
   ·rename_i hl
    obtain ⟨⟨e1, T1⟩, hr, he⟩ := Option.map_eq_some_iff.1 h
    cases he
    exact ih (x + 3) e1 T1 (by omega) (by have := hl.2.2.1; omega) hr
   ·obtain ⟨⟨e1, T1⟩, hr, he⟩ := Option.map_eq_some_iff.1 h
    cases he
    exact ih (x + 1) e1 T1 (by omega) (by omega) hr
theorem even_text (hT : Txt L) (h0 : 0 ≤ x) (h1 : x < L.length) (hq : rd L x = 34) (h : fstr L false x = some (e, T)) : Even q L x e := fun esc => by
 have hin := hT.inside h0 h1 (by omega)
 have hok := fstr_ok (q := q) hT h0 (by omega) h
 have hlast : rd L (e - 1) = 34 := by
  unfold fstr at h
  obtain ⟨⟨e1, T1⟩, hr, he⟩ := Option.map_eq_some_iff.1 h
  cases he
  exact fs_last hT _ _ _ _ (by omega) (by omega) hr
 refine ⟨ew L esc e L.length x, ?_, ew_cut (by omega) hlast (e - x).toNat x h0 (by omega) (by omega)⟩
 rw [cw_at hT h0 (by omega), if_pos hin, if_pos hq, te_text hT h0 h1 hq h]
/-- Ahead of a value whose first byte is no blank the automaton stands at its beginning. -/
theorem AtV.here (h : AtV q L st i) (hT : Txt L) (h0 : 0 ≤ i) (h1 : i < (L.length : Int) - 1) (hb : ¬ isBlank (rd L i)) : out q L .val [] 0 = out q L .val st i := by
 rcases h.1 with h2 | ⟨h2, h3⟩
 ·exact h2
 ·rw [h2, out_at q L _ st i h0 h1, out_at q L .val st i h0 h1]
  have e : step q (rd L i) .item0 st = step q (rd L i) .val st := by
   show between q (rd L i) .item0 st = between q (rd L i) .val st
   unfold between
   rw [if_neg hb, if_neg hb]
   exact if_neg h3
  rw [e]
  rfl
theorem atV0 : AtV q L [] 0 := ⟨.inl rfl, Even.refl⟩
theorem AtV.text (h : AtV q L st i) (hT : Txt L) (h0 : 0 ≤ i) (h1 : i < (L.length : Int) - 1) (hq : rd L i = 34) (hf : fstr L false i = some (e, T)) : AtC q L st e := by
 have hok := fstr_ok (q := q) hT h0 (by omega) hf
 refine ⟨?_, h.2.trans (even_text hT h0 (by omega) hq hf)⟩
 rw [h.here hT h0 h1 (by rw [hq]; decide), (air_go (q := q) (ph := .val) (st := st) (ph' := .text) (st' := st) hT rfl h0 (by omega) hq (by decide) rfl rfl).1]
 exact hok.2.2 st
theorem AtV.lit {l : List Int} (h : AtV q L st i) (hT : Txt L) (h0 : 0 ≤ i) (h1 : i < (L.length : Int) - 1) (hl : Lit_ l) (hb : ∀ c ∈ l, c ≠ 0 ∧ c ≠ 34 ∧ ¬ isBlank c ∧ ¬ sign c ∧ c ≠ 226) (hc : ¬ isBlank (rd L i)) (hv : ∀ st, out q L .val st i = out q L (.word l 1) st (i + 1)) (hf : flit L i l = some (e, T)) : AtC q L st e := by
 have hg := flit_gt hT h0 (by omega) (by have := hl.len; omega) hl.pos hf
 refine ⟨?_, h.2.trans (even_run hT h0 (by omega) hg.2 (fun k a b => ?_))⟩
 ·rw [h.here hT h0 h1 hc]
  exact flit_ok hl hT h0 (by omega) hv hf st
 ·refine hb _ ?_
  unfold flit at hf
  split at hf
  ·rename_i hs
   simp only [Option.some.injEq, Prod.mk.injEq] at hf
   have := seg_get (L := L) i e (k - i).toNat h0 (by omega) (by omega)
   rw [← hf.1, hs, show i + (((k - i).toNat : Nat) : Int) = k by omega] at this
   exact List.mem_of_getElem? this
  ·cases hf
theorem AtV.num (h : AtV q L st i) (hT : Txt L) (h0 : 0 ≤ i) (h1 : i < (L.length : Int) - 1) (hc : rd L i = 45 ∨ isDig (rd L i)) (hf : fnum L i = some (e, T)) : AtC q L st e := by
 have hok := fnum_ok (q := q) hT h0 (by omega) hc hf
 have hch := fnum_chars hT h0 (by omega) hc hf
 refine ⟨?_, h.2.trans (even_run hT h0 (by omega) hok.2.1 (fun k a b => ?_))⟩
 ·rw [h.here hT h0 h1 (by unfold isBlank; unfold isDig at hc; omega)]
  exact hok.2.2.2 st
 ·have := hch k a b
  unfold numC isDig at this
  unfold isBlank sign
  omega
/-- An object's first byte, and no name behind it. -/
theorem AtV.obj0 (h : AtV q L st i) (hT : Txt L) (h0 : 0 ≤ i) (h1 : i + 1 < (L.length : Int) - 1) (hc : rd L i = 123) (hd : rd L (i + 1) = 125) : AtC q L st (i + 2) := by
 refine ⟨?_, h.2.trans ((even_one hT h0 (by omega) hc (by decide)).trans (by have := even_one (q := q) hT (x := i + 1) (by omega) (by omega) hd (by decide); rw [show i + 1 + 1 = i + 2 by omega] at this; exact this))⟩
 rw [h.here hT h0 (by omega) (by rw [hc]; decide), (air_go (q := q) (ph := .val) (st := st) (ph' := .name0) (st' := .obj :: st) hT rfl h0 (by omega) hc (by decide) rfl rfl).1,
  (air_end (q := q) (st := .obj :: st) (ph := .name0) hT rfl (by omega) (by omega) hd (by decide) rfl).1, show i + 1 + 1 = i + 2 by omega]
 rfl
theorem AtV.arr0 (h : AtV q L st i) (hT : Txt L) (h0 : 0 ≤ i) (h1 : i + 1 < (L.length : Int) - 1) (hc : rd L i = 91) (hd : rd L (i + 1) = 93) : AtC q L st (i + 2) := by
 refine ⟨?_, h.2.trans ((even_one hT h0 (by omega) hc (by decide)).trans (by have := even_one (q := q) hT (x := i + 1) (by omega) (by omega) hd (by decide); rw [show i + 1 + 1 = i + 2 by omega] at this; exact this))⟩
 rw [h.here hT h0 (by omega) (by rw [hc]; decide), (air_go (q := q) (ph := .val) (st := st) (ph' := .item0) (st' := .arr :: st) hT rfl h0 (by omega) hc (by decide) rfl rfl).1,
  (air_end (q := q) (st := .arr :: st) (ph := .item0) hT rfl (by omega) (by omega) hd (by decide) rfl).1, show i + 1 + 1 = i + 2 by omega]
 rfl
/-- An array's first byte, and a value behind it. -/
theorem AtV.arr (h : AtV q L st i) (hT : Txt L) (h0 : 0 ≤ i) (h1 : i < (L.length : Int) - 1) (hc : rd L i = 91) (hd : rd L (i + 1) ≠ 93) : AtV q L (.arr :: st) (i + 1) := by
 refine ⟨.inr ⟨?_, hd⟩, h.2.trans (even_one hT h0 (by omega) hc (by decide))⟩
 rw [h.here hT h0 h1 (by rw [hc]; decide), (air_go (q := q) (ph := .val) (st := st) (ph' := .item0) (st' := .arr :: st) hT rfl h0 (by omega) hc (by decide) rfl rfl).1]
/-- A name's text and its colon. -/
theorem name_col (hT : Txt L) (h0 : 0 ≤ j) (h1 : j < (L.length : Int) - 1) (hq : rd L j = 34) (hf : fstr L false j = some (e, T)) (he : e < (L.length : Int) - 1) (hc : rd L e = 58) {ph : Ph} (hp : ph = .name0 ∨ ph = .name) :
  out q L ph (.obj :: st) j = out q L .val (.obj :: st) (e + 1) ∧ Even q L j (e + 1) := by
 have hok := fstr_ok (q := q) hT h0 (by omega) hf
 refine ⟨?_, (even_text hT h0 (by omega) hq hf).trans (even_one hT (by omega) he hc (by decide))⟩
 have h2 : out q L ph (.obj :: st) j = out q L .text (.key :: st) (j + 1) := by
  rcases hp with rfl | rfl
  ·exact (air_go (q := q) (ph := .name0) (st := .obj :: st) (ph' := .text) (st' := .key :: st) hT rfl h0 (by omega) hq (by decide) rfl rfl).1
  ·exact (air_go (q := q) (ph := .name) (st := .obj :: st) (ph' := .text) (st' := .key :: st) hT rfl h0 (by omega) hq (by decide) rfl rfl).1
 rw [h2, hok.2.2 (.key :: st), cont_cons]
 exact (air_go (q := q) (ph := .colon) (st := .obj :: st) (ph' := .val) (st' := .obj :: st) hT rfl (by omega) (by omega) hc (by decide) rfl rfl).1
theorem AtV.obj (h : AtV q L st i) (hT : Txt L) (h0 : 0 ≤ i) (h1 : i + 1 < (L.length : Int) - 1) (hc : rd L i = 123) (hq : rd L (i + 1) = 34) (hf : fstr L false (i + 1) = some (e, T)) (he : e < (L.length : Int) - 1) (hd : rd L e = 58) : AtV q L (.obj :: st) (e + 1) := by
 have hn := name_col (q := q) (st := st) hT (by omega) h1 hq hf he hd (.inl rfl)
 refine ⟨.inl ?_, h.2.trans ((even_one hT h0 (by omega) hc (by decide)).trans hn.2)⟩
 rw [h.here hT h0 (by omega) (by rw [hc]; decide), (air_go (q := q) (ph := .val) (st := st) (ph' := .name0) (st' := .obj :: st) hT rfl h0 (by omega) hc (by decide) rfl rfl).1, hn.1]
theorem AtC.member (h : AtC q L (.obj :: st) i) (hT : Txt L) (h0 : 0 ≤ i) (h1 : i + 1 < (L.length : Int) - 1) (hc : rd L i = 44) (hq : rd L (i + 1) = 34) (hf : fstr L false (i + 1) = some (e, T)) (he : e < (L.length : Int) - 1) (hd : rd L e = 58) : AtV q L (.obj :: st) (e + 1) := by
 have hn := name_col (q := q) (st := st) hT (by omega) h1 hq hf he hd (.inr rfl)
 refine ⟨.inl ?_, h.2.trans ((even_one hT h0 (by omega) hc (by decide)).trans hn.2)⟩
 rw [h.1, cont_cons, ← hn.1]
 exact (air_go (q := q) (ph := .memb) (st := .obj :: st) (ph' := .name) (st' := .obj :: st) hT rfl h0 (by omega) hc (by decide) rfl rfl).1
theorem AtC.item (h : AtC q L (.arr :: st) i) (hT : Txt L) (h0 : 0 ≤ i) (h1 : i < (L.length : Int) - 1) (hc : rd L i = 44) : AtV q L (.arr :: st) (i + 1) := by
 refine ⟨.inl ?_, h.2.trans (even_one hT h0 h1 hc (by decide))⟩
 rw [h.1, cont_cons]
 exact (air_go (q := q) (ph := .item) (st := .arr :: st) (ph' := .val) (st' := .arr :: st) hT rfl h0 (by omega) hc (by decide) rfl rfl).1
theorem AtC.shutO (h : AtC q L (.obj :: st) i) (hT : Txt L) (h0 : 0 ≤ i) (h1 : i < (L.length : Int) - 1) (hc : rd L i = 125) : AtC q L st (i + 1) := by
 refine ⟨?_, h.2.trans (even_one hT h0 h1 hc (by decide))⟩
 rw [h.1, cont_cons]
 exact (air_end (q := q) (st := .obj :: st) (ph := .memb) hT rfl h0 (by omega) hc (by decide) rfl).1
theorem AtC.shutA (h : AtC q L (.arr :: st) i) (hT : Txt L) (h0 : 0 ≤ i) (h1 : i < (L.length : Int) - 1) (hc : rd L i = 93) : AtC q L st (i + 1) := by
 refine ⟨?_, h.2.trans (even_one hT h0 h1 hc (by decide))⟩
 rw [h.1, cont_cons]
 exact (air_end (q := q) (st := .arr :: st) (ph := .item) hT rfl h0 (by omega) hc (by decide) rfl).1
theorem AtC.good (h : AtC q L [] i) (hT : Txt L) (hi : i = (L.length : Int) - 1) : Good q L := by
 refine ⟨by rw [h.1, hi]; rfl, fun esc => ?_⟩
 obtain ⟨H, a, b⟩ := h.2 esc
 have hp := hT.pos
 rw [a, b, cw_at hT (by omega) (by omega), if_neg (by omega), ew_at (by omega) (by omega), if_neg (by omega)]
/-- Nothing is left out. -/
theorem Good.all (h : Good q L) (hT : Txt L) : cw q L false L.length 0 = seg L 0 ((L.length : Int) - 1) := by
 have hp := hT.pos
 have key : ∀ (n : Nat) (x : Int), 0 ≤ x → x ≤ (L.length : Int) - 1 → (L.length : Int) - 1 - x = n → ew L false ((L.length : Int) - 1) L.length x = seg L x ((L.length : Int) - 1) := by
  intro n
  induction n with
  | zero => intro x h0 h1 h2; rw [ew_at (by omega) h0, if_neg (by omega), show x = (L.length : Int) - 1 by omega, seg_nil]
  | succ n ih =>
   intro x h0 h1 h2
   rw [ew_at (by omega) h0, if_pos (by omega), if_neg (fun h => by cases h.1), if_neg (fun h => by cases h.1), seg_cons x _ h0 (by omega) (by omega), ih (x + 1) (by omega) (by omega) (by omega)]
 rw [h.2 false]
 exact key (L.length - 1) 0 (by omega) (by omega) (by omega)
end
end Go.Proofs.YtbikiibpjdiaaaaDoor.Err
/- The walk over compact JSON. -/
namespace Go.Proofs.YtbikiibpjdiaaaaDoor.Err
open Go.RowKit Go.Proofs.YtbikiibpjdiaaaaDoorW.PrintWords Go.Proofs.YtbikiibpjdiaaaaDoorW.PrintLast Go.Proofs.YtbikiibpjdiaaaaDoorW.PrintMore Go.Proofs.YtbikiibpjdiaaaaDoor.Dig Go.Proofs.YtbikiibpjdiaaaaDoor.Tab
set_option linter.unusedVariables false
/-- 64 cells, told by a function. -/
def cells64 (F : Nat → Int) : Array Value := ((List.range 64).map fun j => Value.int .u8 (F j)).toArray
theorem cells64_get (F : Nat → Int) (j : Nat) (h : j < 64) : (cells64 F)[j]? = some (.int .u8 (F j)) := by
 unfold cells64
 rw [List.getElem?_toArray, List.getElem?_map, List.getElem?_range h]
 rfl
theorem cells64_size (F : Nat → Int) : (cells64 F).size = 64 := by unfold cells64; rw [List.size_toArray, List.length_map, List.length_range]
def putF (F : Nat → Int) (i : Nat) (v : Int) (j : Nat) : Int := if j = i then v else F j
theorem cells64_put (F : Nat → Int) (i : Nat) (v : Int) (h : i < 64) : (cells64 F).set! i (.int .u8 v) = cells64 (putF F i v) := by
 apply Array.ext_getElem?
 intro j
 by_cases hj : j < 64
 ·rw [cells64_get _ j hj, Array.set!_eq_setIfInBounds, Array.getElem?_setIfInBounds]
  unfold putF
  by_cases hij : j = i
  ·subst hij; simp [cells64_size, h]
  ·rw [if_neg (fun e => hij e.symm), cells64_get F j hj, if_neg hij]
 ·rw [Array.getElem?_eq_none (by rw [Array.set!_eq_setIfInBounds, Array.size_setIfInBounds, cells64_size]; omega), Array.getElem?_eq_none (by rw [cells64_size]; omega)]
set_option maxRecDepth 100000 in
theorem zeroTz (w : World) : Sem.run Tryd.prog (zeroValue 69) w = .ok (.agg (cells64 fun _ => 0)) w := by kernel_rfl
/-- The stack of closing brackets, and what lay before. -/
structure Stk (w w' : World) (F : Nat → Int) : Prop where
 blk : w'.heap[w.heap.size]? = some (.cells (cells64 F) 69 (0, 0))
 below : Below w.heap.size w w'
def shutB : Br → Int
 | .arr => 93
 | _ => 125
/-- The stack holds the brackets that are open. -/
def StkOf (F : Nat → Int) : List Br → Prop
 | [] => True
 | b :: r => F r.length = shutB b ∧ b ≠ .key ∧ StkOf F r
/-- What isCompactJSON answers. -/
def IcAns (q : ByteArray → ByteArray) (l : List Int) (w : World) (e : Ending) (w' : World) : Prop :=
 (∃ r, e = .returned (.bool r) ∧ (r = true → Good q (l ++ [0]))) ∧ Below w.heap.size w w'
section
variable {q : ByteArray → ByteArray} {w w' w2 : World} {A : Option Addr} {ad : Addr} {c : Nat} {l : List Int} {x y z : Int} {F : Nat → Int} {plain : Bool}
theorem Stk.start (w : World) : Stk w (w.alloc (.cells (cells64 fun _ => 0) 69)) fun _ => 0 := ⟨blk_new w _, below_alloc (Below.refl _ _) _⟩
theorem Stk.lt (h : Stk w w' F) : w.heap.size < w'.heap.size := (Array.getElem?_eq_some_iff.1 h.blk).1
theorem Stk.cell (h : Stk w w' F) (j : Nat) (hj : j < 64) : w'.cell? ⟨w.heap.size, j, none⟩ = some (.int .u8 (F j)) ∧ w'.frozen? ⟨w.heap.size, j, none⟩ = false := by
 have h1 := h.blk
 constructor <;> simp [World.cell?, World.frozen?, h1, cells64_get F j hj]
theorem Stk.put (h : Stk w w' F) (j : Nat) (hj : j < 64) (v : Int) : Stk w (w'.setCell ⟨w.heap.size, j, none⟩ (.int .u8 v)) (putF F j v) := by
 have h1 := heap_setCell_same w' w.heap.size j _ 69 (.int .u8 v) h.blk
 refine ⟨?_, h.below.setCell (Nat.le_refl _) _⟩
 rw [← cells64_put F j v hj]
 simpa using h1
theorem Stk.step (h : Stk w w' F) (hb : Below w'.heap.size w' w2) : Stk w w2 F := ⟨by rw [hb.block _ h.lt]; exact h.blk, below_step h.below hb⟩
theorem Stk.drewN (h : Stk w w' F) (n : Nat) : Stk w (w'.drewN n) F := h.step (pw_below_drewN (Below.refl _ _) n)
theorem stk_put {st : List Br} (i : Nat) (v : Int) (h : StkOf F st) (hi : st.length ≤ i) : StkOf (putF F i v) st := by
 induction st with
 | nil => trivial
 | cons b r ih =>
  have hl : r.length + 1 ≤ i := hi
  refine ⟨?_, h.2.1, ih h.2.2 (by omega)⟩
  unfold putF
  rw [if_neg (by omega)]
  exact h.1
theorem stk_push {st : List Br} (b : Br) (hb : b ≠ .key) (h : StkOf F st) : StkOf (putF F st.length (shutB b)) (b :: st) :=
 ⟨by unfold putF; rw [if_pos rfl], hb, stk_put _ _ h (Nat.le_refl _)⟩
theorem seg_drop0 (h0 : 0 ≤ x) (n : Nat) (hn : x + n ≤ l.length) : (l.drop x.toNat).take n = seg (l ++ [0]) x (x + n) := by
 unfold seg
 rw [List.take_append_of_le_length (by omega), show (x + (n : Int)).toNat = x.toNat + n by omega, List.drop_take, show x.toNat + n - x.toNat = n by omega]
set_option maxRecDepth 100000 in
set_option maxHeartbeats 8000000 in
theorem hasPrefix (hC : Kd.C (Kd.int .u8) w A l.length l) (hcap : l.length ≤ c) (hb : ∀ y ∈ l, 0 ≤ y ∧ y < 256) (hl : l.length ≤ 1000000) (s : ByteArray) (hs8 : s.size ≤ 8) :
  Calls Tryd.prog 53 #[.slice A l.length c, .string s] w fun e w' => (∃ r, e = .returned (.bool r) ∧ (r = true → s.size ≤ l.length ∧ l.take s.size = sb s)) ∧ Drawn0 w w' := by
 by_cases hn : s.size ≤ l.length
 ·have d1 : decide ((s.size : Int) ≤ (l.length : Int)) = true := decide_eq_true (by omega)
  have g1 : ((s.size : Int) ≤ (c : Int)) = True := eq_true (by omega)
  have hR := ReadsOf.take_ (Kd.reads_of_C (enc := Value.int .u8) (d := (0 : Int)) (h1 := fun _ => rfl) hC) s.size (by omega)
  have hcv := Kd.C_string (P := Tryd.prog) (A := A) (c := c) Tryd.underlying22 Tryd.underlying5 Tryd.underlying9 (Kd.C_of_reads (h1 := fun _ => rfl) hR)
  have hst := str_eq (l.take s.size) s (fun y hy => hb y (List.mem_of_mem_take hy))
  have hlen : (l.take s.size).length = s.size := by rw [List.length_take]; omega
  by_cases hq : l.take s.size = sb s
  ·rw [decide_eq_true hq] at hst
   have HRES := Aside0.mk hq
   clear hq hR hb hC
   generalize l.take s.size = S at hst hcv hlen HRES ⊢
   go_enter Tryd.func53, Tryd.ntmps53
   go_wp2_with fail
   go_ret
   exact ⟨⟨_, rfl, fun _ => ⟨hn, HRES.out⟩⟩, by first | exact ⟨_, rfl⟩ | (repeat (first | exact Drawn0.refl _ | apply Drawn0.step))⟩
  ·rw [decide_eq_false hq] at hst
   clear hq hR hb hC
   generalize l.take s.size = S at hst hcv hlen ⊢
   go_enter Tryd.func53, Tryd.ntmps53
   go_wp2_with fail
   go_ret
   exact ⟨⟨false, rfl, fun h => by cases h⟩, by first | exact ⟨_, rfl⟩ | (repeat (first | exact Drawn0.refl _ | apply Drawn0.step))⟩
 ·have d1 : decide ((s.size : Int) ≤ (l.length : Int)) = false := decide_eq_false (by omega)
  clear hb hC
  go_enter Tryd.func53, Tryd.ntmps53
  go_wp2_with fail
  go_ret
  exact ⟨⟨false, rfl, fun h => by cases h⟩, by first | exact ⟨_, rfl⟩ | (repeat (first | exact Drawn0.refl _ | apply Drawn0.step))⟩
/-- The words' look. -/
theorem litAt (hC : Kd.C (Kd.int .u8) w (some ad) l.length l) (hcap : l.length ≤ c) (hH : High l) (h0 : 0 ≤ x) (hx : x < l.length) (s : ByteArray) (hs8 : s.size ≤ 8) :
  Calls Tryd.prog 53 #[.slice (some (ad.add x.toNat)) (l.length - x.toNat) (c - x.toNat), .string s] w fun e w' => (∃ r, e = .returned (.bool r) ∧ (r = true → flit (l ++ [0]) x (sb s) = some (x + s.size, sb s))) ∧ Drawn0 w w' := by
 have hl : (l.drop x.toNat).length = l.length - x.toNat := List.length_drop
 have hR := ReadsOf.drop_ (c := c) (Kd.reads_of_C (enc := Value.int .u8) (d := (0 : Int)) (h1 := fun _ => rfl) hC) x.toNat (by omega) hcap
 have hcx : ¬ c = x.toNat := by omega
 ·rw [if_neg hcx] at hR
  have hc := hasPrefix (c := c - x.toNat) (by rw [hl]; exact Kd.C_of_reads (h1 := fun _ => rfl) hR) (by rw [hl]; omega) (fun y hy => hH.low y (List.mem_of_mem_drop hy)) (by rw [hl]; have := hH.len; omega) s hs8
  rw [hl] at hc
  refine hc.mono ?_
  rintro e w1 ⟨⟨r, rfl, hr⟩, hd⟩
  refine ⟨⟨r, rfl, fun h => ?_⟩, hd⟩
  obtain ⟨h1, h2⟩ := hr h
  unfold flit
  rw [sb_len s, ← seg_drop0 h0 s.size (by omega), h2, if_pos rfl]
set_option maxRecDepth 100000 in
set_option maxHeartbeats 64000000 in
theorem isCompact (hC : Kd.C (Kd.int .u8) w A l.length l) (hcap : l.length ≤ c) (hG : Glob w) (hH : High l) (hp : plain = true → ∀ y ∈ l, y ≠ 92) :
  Calls Tryd.prog 42 #[.slice A l.length c, .bool plain] w (IcAns q l w) := by
 have hlen : ((l ++ [(0 : Int)]).length : Int) = l.length + 1 := by rw [List.length_append]; rfl
 have hsm := hH.len
 have HT := Aside0.mk hH.txt
 have HC := Aside0.mk hC
 have HLEN := Aside0.mk hlen
 have HQ : Aside0 (∀ (W : World) (x : Int), Below w.heap.size w W → 0 ≤ x → x < l.length → rd l x = 34 → (plain = true → Calls Tryd.prog 51 #[.slice A l.length c, .int .i64 (x + 1)] W fun e w' => (∃ r, e = .returned (.int .i64 r) ∧ QE l x r) ∧ Drawn0 W w') ∧ Calls Tryd.prog 52 #[.slice A l.length c, .int .i64 (x + 1)] W fun e w' => (∃ r, e = .returned (.int .i64 r) ∧ QE l x r) ∧ Drawn0 W w') :=
  ⟨fun W x hb h0 h1 hq => ⟨fun h => quoteEnd (Kd.C_below hC hb) hcap (hG.below hb) hH (hp h) h0 h1 hq, escapedQuoteEnd (Kd.C_below hC hb) hcap (hG.below hb) hH h0 h1 hq⟩⟩
 have HLIT : Aside0 (∀ (W : World) (ad : Addr), A = some ad → ∀ x : Int, Below w.heap.size w W → 0 ≤ x → x < l.length → ∀ s : ByteArray, s.size ≤ 8 → Calls Tryd.prog 53 #[.slice (some (ad.add x.toNat)) (l.length - x.toNat) (c - x.toNat), .string s] W fun e w' => (∃ r, e = .returned (.bool r) ∧ (r = true → flit (l ++ [0]) x (sb s) = some (x + s.size, sb s))) ∧ Drawn0 W w') :=
  ⟨fun W ad hA x hb h0 h1 s h8 => litAt (by rw [← hA]; exact Kd.C_below hC hb) hcap hH h0 h1 s h8⟩
 have HNUM : Aside0 (∀ (W : World) (x : Int), Below w.heap.size w W → 0 ≤ x → x < l.length → Calls Tryd.prog 54 #[.slice A l.length c, .int .i64 x] W fun e w' => (∃ r, e = .returned (.int .i64 r) ∧ NE l x r) ∧ Drawn0 W w') :=
  ⟨fun W x hb h0 h1 => numberEnd (Kd.C_below hC hb) hcap hH h0 h1⟩
 have z69 := zeroTz
 clear hC hG hH hp hlen
 go_enter Tryd.func42, Tryd.ntmps42
 go_upto_region 4 with (simp only [z69])
 clear z69
 go_cut [8] from 13 to 227 (fun v8 wx => v8 = .int .i64 0 ∧ Aside0 (Stk w wx fun _ => 0))
 case first =>
  as_aux_lemma =>
   go_wp2_with fail
   go_meet
   case rel => exact ⟨rfl, ⟨Stk.start w⟩⟩
 case rest =>
  as_aux_lemma =>
   obtain ⟨rfl, HS0⟩ := hcut
   go_wp2_with fail
   go_loopg [6, 8] (l.length + 1) (fun kq v6 v8 wx => ∃ (st : List Br) (F : Nat → Int) (i d : Int), v6 = .int .i64 d ∧ v8 = .int .i64 i ∧ Aside0 (0 ≤ i ∧ i ≤ l.length ∧ d = st.length ∧ st.length ≤ 64 ∧ (l.length : Int) + 1 ≤ i + kq) ∧ Aside0 (AtV q (l ++ [0]) st i) ∧ Aside0 (Stk w wx F) ∧ Aside0 (StkOf F st))
   case atStart => exact ⟨[], fun _ => 0, 0, 0, rfl, rfl, ⟨by simp⟩, ⟨atV0⟩, HS0, ⟨trivial⟩⟩
   case round =>
    as_aux_lemma =>
     clear HS0
     obtain ⟨st, F, i0, d, rfl, rfl, HI, HV, HS, HSO⟩ := hrel
     obtain ⟨i1, i2, i3, i4, i5⟩ := HI.out
     have hd0 : 0 ≤ d := by omega
     have hd64 : d ≤ 64 := by omega
     clear i3 i4
     obtain _ | g0 := gk
     ·exfalso; omega
     have ei1 : wrap64 (i0 + 1) = i0 + 1 := by unfold wrap64; omega
     by_cases hin : i0 < l.length
     ·have dn : decide ((l.length : Int) ≤ i0) = false := decide_eq_false (by omega)
      obtain ⟨ad2, hA, hxi⟩ := Kd.at_int (Kd.C_below HC.out HS.out.below) i0 (by omega) hin
      cases hA
      go_upto_block 2 with (fail)
      clear hxi
      go_cut [6, 8, 9] from 13 to 227 (fun v6 v8 v9 wx => ∃ (st : List Br) (F : Nat → Int) (i d : Int), v6 = .int .i64 d ∧ v8 = .int .i64 i ∧ Aside0 (i0 < i ∧ i ≤ l.length ∧ d = st.length ∧ st.length ≤ 64) ∧ Aside0 (AtC q (l ++ [0]) st i) ∧ Aside0 (Stk w wx F) ∧ Aside0 (StkOf F st))
      case first =>
       as_aux_lemma =>
        by_cases c34 : rd l i0 = 34
        ·have H34 := Aside0.mk c34
         rw [c34]
         clear c34
         go_upto_if 23 with (fail)
         go_cut [8] from 13 to 227 (fun v8 wx => ∃ r : Int, v8 = .int .i64 r ∧ Aside0 (QE l i0 r) ∧ Aside0 (Stk w wx F))
         case first =>
          as_aux_lemma =>
           obtain _ | _ := plain
           ·have HCALL := Aside0.mk (HQ.out _ i0 HS.out.below (by omega) hin H34.out).2
            go_wp2_with fail
            with_reducible refine HCALL.out.mono ?_
            rintro e w2 ⟨⟨r, rfl, hr⟩, hd2⟩
            have HR := Aside0.mk hr
            have HS2 := Aside0.mk (HS.out.step hd2.below)
            clear hr hd2
            go_wp2_with fail
            go_meet
            case rel => exact ⟨r, rfl, HR, HS2⟩
           ·have HCALL := Aside0.mk ((HQ.out _ i0 HS.out.below (by omega) hin H34.out).1 rfl)
            go_wp2_with fail
            with_reducible refine HCALL.out.mono ?_
            rintro e w2 ⟨⟨r, rfl, hr⟩, hd2⟩
            have HR := Aside0.mk hr
            have HS2 := Aside0.mk (HS.out.step hd2.below)
            clear hr hd2
            go_wp2_with fail
            go_meet
            case rel => exact ⟨r, rfl, HR, HS2⟩
         case rest =>
          as_aux_lemma =>
           clear HS
           obtain ⟨r, rfl, HR, HS⟩ := hcut
           by_cases hr0 : r < 0
           ·have dr : decide (r < 0) = true := decide_eq_true hr0
            clear hr0
            go_wp2_with fail
            go_ret
            exact ⟨⟨false, rfl, fun h => by cases h⟩, HS.out.below⟩
           ·have dr : decide (r < 0) = false := decide_eq_false hr0
            obtain ⟨T, hT⟩ : ∃ T, fstr (l ++ [0]) false i0 = some (r, T) := by
             rcases HR.out with h | h
             ·omega
             ·exact h
            have hrb := fstr_ok (q := q) HT.out (by omega) (by have := HLEN.out; omega) hT
            have HFS := Aside0.mk hT
            have hr1 : i0 + 1 < r ∧ r ≤ l.length := by have := HLEN.out; omega
            clear hT hrb hr0
            have HAT := Aside0.mk (HV.out.text HT.out (by omega) (by have := HLEN.out; omega) (by rw [rdL (by omega) (by omega)]; exact H34.out) HFS.out)
            go_wp2_with fail
            go_meet
            case rel => exact ⟨st, F, r, d, rfl, rfl, ⟨by have := HI.out; omega⟩, HAT, HS, HSO⟩
        by_cases c123 : rd l i0 = 123
        ·have HCH := Aside0.mk c123
         rw [c123]
         clear c123
         by_cases h64 : d = 64
         ·have f64 : (d == 64) = true := beq_iff_eq.mpr h64
          clear h64
          go_wp2_with fail
          go_ret
          exact ⟨⟨false, rfl, fun h => by cases h⟩, HS.out.below⟩
         ·have hd64 : d < 64 := by omega
          have f64 : (d == 64) = false := beq_eq_false_iff_ne.mpr (by omega)
          obtain ⟨hs1, hs2⟩ := HS.out.cell d.toNat (by omega)
          go_upto_region 18 with (fail)
          go_cut [6] from 39 to 40 (fun v6 wx => v6 = .int .i64 d ∧ Aside0 (Stk w wx (putF F d.toNat 125)))
          case first =>
           as_aux_lemma =>
            have HS2 := Aside0.mk (HS.out.put d.toNat (by omega) 125)
            go_wp2_with fail
            go_meet
            case rel => exact ⟨rfl, HS2⟩
          case rest =>
           as_aux_lemma =>
            clear HS hs1 hs2
            obtain ⟨rfl, HS⟩ := hcut
            have HSP : Aside0 (StkOf (putF F d.toNat 125) st) := ⟨stk_put _ _ HSO.out (by have := HI.out; omega)⟩
            have HSQ : Aside0 (StkOf (putF F d.toNat 125) (.obj :: st)) := ⟨by
             have h := stk_push .obj (fun h => by cases h) HSO.out
             rw [show st.length = d.toNat by have := HI.out; omega] at h
             exact h⟩
            have ed1 : wrap64 (d + 1) = d + 1 := by unfold wrap64; omega
            have ed2 : wrap64 (d + 1 - 1) = d := by unfold wrap64; omega
            have ei2 : wrap64 (i0 + 1 + 1) = i0 + 1 + 1 := by unfold wrap64; omega
            by_cases hn1 : i0 + 1 < (l.length : Int)
            ·have d1 : decide (i0 + 1 < (l.length : Int)) = true := decide_eq_true hn1
             have dn : decide ((l.length : Int) ≤ i0 + 1) = false := decide_eq_false (by omega)
             obtain ⟨ad2, hA, hxi⟩ := Kd.at_int (Kd.C_below HC.out HS.out.below) (i0 + 1) (by omega) hn1
             cases hA
             by_cases h125 : rd l (i0 + 1) = 125
             ·have HAT := Aside0.mk (HV.out.obj0 HT.out (by omega) (by have := HLEN.out; omega) (by rw [rdL (by omega) (by omega)]; exact HCH.out) (by rw [rdL (by omega) (by omega)]; exact h125))
              rw [h125] at hxi
              clear h125
              go_wp2_with fail
              go_meet
              case rel => exact ⟨st, putF F d.toNat 125, i0 + 2, d, by first | rfl | rw [ed2] | rw [ed1, ed2], by first | rfl | rw [show i0 + 1 + 1 = i0 + 2 by omega] | rw [ei2, show i0 + 1 + 1 = i0 + 2 by omega] | rw [ei1, ei2, show i0 + 1 + 1 = i0 + 2 by omega], ⟨by have := HI.out; omega⟩, HAT, HS, HSP⟩
             ·have f125 : (rd l (i0 + 1) == 125) = false := beq_eq_false_iff_ne.mpr h125
              by_cases h34 : rd l (i0 + 1) = 34
              ·have H34 := Aside0.mk h34
               rw [h34] at hxi
               clear h34 h125 f125
               go_upto_if 69 with (fail)
               go_cut [8] from 13 to 227 (fun v8 wx => ∃ r : Int, v8 = .int .i64 r ∧ Aside0 (QE l (i0 + 1) r) ∧ Aside0 (Stk w wx (putF F d.toNat 125)))
               case first =>
                as_aux_lemma =>
                 obtain _ | _ := plain
                 ·have HCALL := Aside0.mk (HQ.out _ (i0 + 1) HS.out.below (by omega) hn1 H34.out).2
                  go_wp2_with fail
                  with_reducible refine HCALL.out.mono ?_
                  rintro e w2 ⟨⟨r, rfl, hr⟩, hd2⟩
                  have HR := Aside0.mk hr
                  have HS2 := Aside0.mk (HS.out.step hd2.below)
                  clear hr hd2
                  go_wp2_with fail
                  go_meet
                  case rel => exact ⟨r, rfl, HR, HS2⟩
                 ·have HCALL := Aside0.mk ((HQ.out _ (i0 + 1) HS.out.below (by omega) hn1 H34.out).1 rfl)
                  go_wp2_with fail
                  with_reducible refine HCALL.out.mono ?_
                  rintro e w2 ⟨⟨r, rfl, hr⟩, hd2⟩
                  have HR := Aside0.mk hr
                  have HS2 := Aside0.mk (HS.out.step hd2.below)
                  clear hr hd2
                  go_wp2_with fail
                  go_meet
                  case rel => exact ⟨r, rfl, HR, HS2⟩
               case rest =>
                as_aux_lemma =>
                 clear HS hxi
                 obtain ⟨r, rfl, HR, HS⟩ := hcut
                 by_cases hr0 : r < 0
                 ·have dr : decide (r < 0) = true := decide_eq_true hr0
                  clear hr0
                  go_wp2_with fail
                  go_ret
                  exact ⟨⟨false, rfl, fun h => by cases h⟩, HS.out.below⟩
                 ·have dr : decide (r < 0) = false := decide_eq_false hr0
                  obtain ⟨T, hT⟩ : ∃ T, fstr (l ++ [0]) false (i0 + 1) = some (r, T) := by
                   rcases HR.out with h | h
                   ·omega
                   ·exact h
                  have hrb := fstr_ok (q := q) HT.out (by omega) (by have := HLEN.out; omega) hT
                  have HFS := Aside0.mk hT
                  have hr1 : (i0 + 1) + 1 < r ∧ r ≤ l.length := by have := HLEN.out; omega
                  clear hT hrb hr0
                  by_cases hrn : r < l.length
                  ·have dn : decide ((l.length : Int) ≤ r) = false := decide_eq_false (by omega)
                   obtain ⟨ad2, hA, hxi⟩ := Kd.at_int (Kd.C_below HC.out HS.out.below) r (by omega) hrn
                   cases hA
                   by_cases h58 : rd l r = 58
                   ·have H58 := Aside0.mk h58
                    rw [h58] at hxi
                    clear h58
                    have HAT := Aside0.mk (HV.out.obj (e := r) HT.out (by omega) (by have := HLEN.out; omega) (by rw [rdL (by omega) (by omega)]; exact HCH.out) (by rw [rdL (by omega) (by omega)]; exact H34.out) HFS.out (by have := HLEN.out; omega) (by rw [rdL (by omega) (by omega)]; exact H58.out))
                    have er1 : wrap64 (r + 1) = r + 1 := by unfold wrap64; omega
                    go_wp2_with fail
                    go_roundg g0
                    case measure => omega
                    case rel => exact ⟨.obj :: st, putF F d.toNat 125, r + 1, d + 1, by first | rfl | rw [ed1], by first | rfl | rw [er1], ⟨by have := HI.out; simp only [List.length_cons]; omega⟩, HAT, HS, HSQ⟩
                   ·have f58 : (rd l r != 58) = true := bne_iff_ne.mpr h58
                    clear h58
                    go_wp2_with fail
                    go_ret
                    exact ⟨⟨false, rfl, fun h => by cases h⟩, HS.out.below⟩
                  ·have dn : decide ((l.length : Int) ≤ r) = true := decide_eq_true (by omega)
                   clear hrn
                   go_wp2_with fail
                   go_ret
                   exact ⟨⟨false, rfl, fun h => by cases h⟩, HS.out.below⟩
              ·have f34 : (rd l (i0 + 1) != 34) = true := bne_iff_ne.mpr h34
               clear h34 h125
               go_wp2_with fail
               go_ret
               exact ⟨⟨false, rfl, fun h => by cases h⟩, HS.out.below⟩
            ·have d1 : decide (i0 + 1 < (l.length : Int)) = false := decide_eq_false hn1
             have dn : decide ((l.length : Int) ≤ i0 + 1) = true := decide_eq_true (by omega)
             clear hn1
             go_wp2_with fail
             go_ret
             exact ⟨⟨false, rfl, fun h => by cases h⟩, HS.out.below⟩
        by_cases c91 : rd l i0 = 91
        ·have HCH := Aside0.mk c91
         rw [c91]
         clear c91
         by_cases h64 : d = 64
         ·have f64 : (d == 64) = true := beq_iff_eq.mpr h64
          clear h64
          go_wp2_with fail
          go_ret
          exact ⟨⟨false, rfl, fun h => by cases h⟩, HS.out.below⟩
         ·have hd64 : d < 64 := by omega
          have f64 : (d == 64) = false := beq_eq_false_iff_ne.mpr (by omega)
          obtain ⟨hs1, hs2⟩ := HS.out.cell d.toNat (by omega)
          go_upto_region 37 with (fail)
          go_cut [6] from 97 to 98 (fun v6 wx => v6 = .int .i64 d ∧ Aside0 (Stk w wx (putF F d.toNat 93)))
          case first =>
           as_aux_lemma =>
            have HS2 := Aside0.mk (HS.out.put d.toNat (by omega) 93)
            go_wp2_with fail
            go_meet
            case rel => exact ⟨rfl, HS2⟩
          case rest =>
           as_aux_lemma =>
            clear HS hs1 hs2
            obtain ⟨rfl, HS⟩ := hcut
            have HSP : Aside0 (StkOf (putF F d.toNat 93) st) := ⟨stk_put _ _ HSO.out (by have := HI.out; omega)⟩
            have HSQ : Aside0 (StkOf (putF F d.toNat 93) (.arr :: st)) := ⟨by
             have h := stk_push .arr (fun h => by cases h) HSO.out
             rw [show st.length = d.toNat by have := HI.out; omega] at h
             exact h⟩
            have ed1 : wrap64 (d + 1) = d + 1 := by unfold wrap64; omega
            have ed2 : wrap64 (d + 1 - 1) = d := by unfold wrap64; omega
            have ei2 : wrap64 (i0 + 1 + 1) = i0 + 1 + 1 := by unfold wrap64; omega
            by_cases hn1 : i0 + 1 < (l.length : Int)
            ·have d1 : decide (i0 + 1 < (l.length : Int)) = true := decide_eq_true hn1
             obtain ⟨ad2, hA, hxi⟩ := Kd.at_int (Kd.C_below HC.out HS.out.below) (i0 + 1) (by omega) hn1
             cases hA
             by_cases h93 : rd l (i0 + 1) = 93
             ·have HAT := Aside0.mk (HV.out.arr0 HT.out (by omega) (by have := HLEN.out; omega) (by rw [rdL (by omega) (by omega)]; exact HCH.out) (by rw [rdL (by omega) (by omega)]; exact h93))
              rw [h93] at hxi
              clear h93
              go_wp2_with fail
              go_meet
              case rel => exact ⟨st, putF F d.toNat 93, i0 + 2, d, by first | rfl | rw [ed2] | rw [ed1, ed2], by first | rfl | rw [show i0 + 1 + 1 = i0 + 2 by omega] | rw [ei2, show i0 + 1 + 1 = i0 + 2 by omega] | rw [ei1, ei2, show i0 + 1 + 1 = i0 + 2 by omega], ⟨by have := HI.out; omega⟩, HAT, HS, HSP⟩
             ·have f93 : (rd l (i0 + 1) == 93) = false := beq_eq_false_iff_ne.mpr h93
              have HAT := Aside0.mk (HV.out.arr HT.out (by omega) (by have := HLEN.out; omega) (by rw [rdL (by omega) (by omega)]; exact HCH.out) (by rw [rdL (by omega) (by omega)]; exact h93))
              clear h93
              go_wp2_with fail
              go_roundg g0
              case measure => omega
              case rel => exact ⟨.arr :: st, putF F d.toNat 93, i0 + 1, d + 1, by first | rfl | rw [ed1], by first | rfl | rw [ei1], ⟨by have := HI.out; simp only [List.length_cons]; omega⟩, HAT, HS, HSQ⟩
            ·have d1 : decide (i0 + 1 < (l.length : Int)) = false := decide_eq_false hn1
             have HAT := Aside0.mk (HV.out.arr HT.out (by omega) (by have := HLEN.out; omega) (by rw [rdL (by omega) (by omega)]; exact HCH.out) (by rw [show i0 + 1 = ((l ++ [(0 : Int)]).length : Int) - 1 by have := HLEN.out; omega, HT.out.last]; decide))
             clear hn1
             go_wp2_with fail
             go_roundg g0
             case measure => omega
             case rel => exact ⟨.arr :: st, putF F d.toNat 93, i0 + 1, d + 1, by first | rfl | rw [ed1], by first | rfl | rw [ei1], ⟨by have := HI.out; simp only [List.length_cons]; omega⟩, HAT, HS, HSQ⟩
        by_cases c116 : rd l i0 = 116
        ·have HCH := Aside0.mk c116
         have HCALL := Aside0.mk (HLIT.out _ _ rfl i0 HS.out.below (by omega) (by omega) ⟨#[116, 114, 117, 101]⟩ (by decide))
         rw [c116]
         clear c116
         have g1 : (i0 ≤ (l.length : Int)) = True := eq_true (by omega)
         have ein : wrap64 (i0 + 4) = i0 + 4 := by unfold wrap64; omega
         go_wp2_with fail
         with_reducible refine HCALL.out.mono ?_
         rintro e w2 ⟨⟨r, rfl, hr⟩, hd2⟩
         have HS2 := Aside0.mk (HS.out.step hd2.below)
         clear HS hd2
         obtain _ | _ := r
         ·go_wp2_with fail
          go_ret
          exact ⟨⟨false, rfl, fun h => by cases h⟩, HS2.out.below⟩
         ·have hf : flit (l ++ [0]) i0 lTrue = some (i0 + 4, lTrue) := hr rfl
          have hg := flit_gt HT.out (by omega) (by have := HLEN.out; omega) (by decide) lit_true.pos hf
          have HAT := Aside0.mk (HV.out.lit HT.out (by omega) (by have := HLEN.out; omega) lit_true (by decide) (by rw [rdL (by omega) (by omega), HCH.out]; decide) (fun st => (val_t HT.out (by omega) (by have := HLEN.out; omega) (by rw [rdL (by omega) (by omega)]; exact HCH.out)).1) hf)
          have hg2 : i0 + 4 ≤ l.length := by have := HLEN.out; omega
          clear hf hg hr
          go_wp2_with fail
          go_meet
          case rel => exact ⟨st, F, i0 + 4, d, rfl, by first | rfl | rw [ein], ⟨by have := HI.out; omega⟩, HAT, HS2, HSO⟩
        by_cases c102 : rd l i0 = 102
        ·have HCH := Aside0.mk c102
         have HCALL := Aside0.mk (HLIT.out _ _ rfl i0 HS.out.below (by omega) (by omega) ⟨#[102, 97, 108, 115, 101]⟩ (by decide))
         rw [c102]
         clear c102
         have g1 : (i0 ≤ (l.length : Int)) = True := eq_true (by omega)
         have ein : wrap64 (i0 + 5) = i0 + 5 := by unfold wrap64; omega
         go_wp2_with fail
         with_reducible refine HCALL.out.mono ?_
         rintro e w2 ⟨⟨r, rfl, hr⟩, hd2⟩
         have HS2 := Aside0.mk (HS.out.step hd2.below)
         clear HS hd2
         obtain _ | _ := r
         ·go_wp2_with fail
          go_ret
          exact ⟨⟨false, rfl, fun h => by cases h⟩, HS2.out.below⟩
         ·have hf : flit (l ++ [0]) i0 lFalse = some (i0 + 5, lFalse) := hr rfl
          have hg := flit_gt HT.out (by omega) (by have := HLEN.out; omega) (by decide) lit_false.pos hf
          have HAT := Aside0.mk (HV.out.lit HT.out (by omega) (by have := HLEN.out; omega) lit_false (by decide) (by rw [rdL (by omega) (by omega), HCH.out]; decide) (fun st => (val_f HT.out (by omega) (by have := HLEN.out; omega) (by rw [rdL (by omega) (by omega)]; exact HCH.out)).1) hf)
          have hg2 : i0 + 5 ≤ l.length := by have := HLEN.out; omega
          clear hf hg hr
          go_wp2_with fail
          go_meet
          case rel => exact ⟨st, F, i0 + 5, d, rfl, by first | rfl | rw [ein], ⟨by have := HI.out; omega⟩, HAT, HS2, HSO⟩
        by_cases c110 : rd l i0 = 110
        ·have HCH := Aside0.mk c110
         have HCALL := Aside0.mk (HLIT.out _ _ rfl i0 HS.out.below (by omega) (by omega) ⟨#[110, 117, 108, 108]⟩ (by decide))
         rw [c110]
         clear c110
         have g1 : (i0 ≤ (l.length : Int)) = True := eq_true (by omega)
         have ein : wrap64 (i0 + 4) = i0 + 4 := by unfold wrap64; omega
         go_wp2_with fail
         with_reducible refine HCALL.out.mono ?_
         rintro e w2 ⟨⟨r, rfl, hr⟩, hd2⟩
         have HS2 := Aside0.mk (HS.out.step hd2.below)
         clear HS hd2
         obtain _ | _ := r
         ·go_wp2_with fail
          go_ret
          exact ⟨⟨false, rfl, fun h => by cases h⟩, HS2.out.below⟩
         ·have hf : flit (l ++ [0]) i0 lNull = some (i0 + 4, lNull) := hr rfl
          have hg := flit_gt HT.out (by omega) (by have := HLEN.out; omega) (by decide) lit_null.pos hf
          have HAT := Aside0.mk (HV.out.lit HT.out (by omega) (by have := HLEN.out; omega) lit_null (by decide) (by rw [rdL (by omega) (by omega), HCH.out]; decide) (fun st => (val_n HT.out (by omega) (by have := HLEN.out; omega) (by rw [rdL (by omega) (by omega)]; exact HCH.out)).1) hf)
          have hg2 : i0 + 4 ≤ l.length := by have := HLEN.out; omega
          clear hf hg hr
          go_wp2_with fail
          go_meet
          case rel => exact ⟨st, F, i0 + 4, d, rfl, by first | rfl | rw [ein], ⟨by have := HI.out; omega⟩, HAT, HS2, HSO⟩
        by_cases hnum : rd l i0 = 45 ∨ isDig (rd l i0)
        ·have f34 : (rd l i0 == 34) = false := beq_eq_false_iff_ne.mpr c34
         have f123 : (rd l i0 == 123) = false := beq_eq_false_iff_ne.mpr c123
         have f91 : (rd l i0 == 91) = false := beq_eq_false_iff_ne.mpr c91
         have f116 : (rd l i0 == 116) = false := beq_eq_false_iff_ne.mpr c116
         have f102 : (rd l i0 == 102) = false := beq_eq_false_iff_ne.mpr c102
         have f110 : (rd l i0 == 110) = false := beq_eq_false_iff_ne.mpr c110
         clear c34 c123 c91 c116 c102 c110
         have HCALL := Aside0.mk (HNUM.out _ i0 HS.out.below (by omega) hin)
         have HN := Aside0.mk hnum
         have f45 : (rd l i0 == 45) = true ∨ ((rd l i0 == 45) = false ∧ decide (48 ≤ rd l i0) = true ∧ decide (rd l i0 ≤ 57) = true) := by
          rcases hnum with h | h
          ·exact .inl (beq_iff_eq.mpr h)
          ·exact .inr ⟨beq_eq_false_iff_ne.mpr (by unfold isDig at h; omega), decide_eq_true h.1, decide_eq_true h.2⟩
         clear hnum
         have HKEEP : True := trivial
         rcases f45 with f45 | ⟨f45, f46, f47⟩
         all_goals
          go_wp2_with fail
          with_reducible refine HCALL.out.mono ?_
          rintro e w2 ⟨⟨r, rfl, hr⟩, hd2⟩
          have HS2 := Aside0.mk (HS.out.step hd2.below)
          have HR := Aside0.mk hr
          clear HS hd2 hr
          by_cases hr0 : r < 0
          ·have dr : decide (r < 0) = true := decide_eq_true hr0
           clear hr0
           go_wp2_with fail
           go_ret
           exact ⟨⟨false, rfl, fun h => by cases h⟩, HS2.out.below⟩
          ·have dr : decide (r < 0) = false := decide_eq_false hr0
           obtain ⟨T, hT⟩ : ∃ T, fnum (l ++ [0]) i0 = some (r, T) := by
            rcases HR.out with h | h
            ·omega
            ·exact h
           have hch : rd (l ++ [0]) i0 = 45 ∨ isDig (rd (l ++ [0]) i0) := by rw [rdL (by omega) (by omega)]; exact HN.out
           have hg := fnum_ok (q := q) HT.out (by omega) (by have := HLEN.out; omega) hch hT
           have HAT := Aside0.mk (HV.out.num HT.out (by omega) (by have := HLEN.out; omega) hch hT)
           have hg2 : i0 < r ∧ r ≤ l.length := by have := HLEN.out; have := hg.1; have := hg.2.1; omega
           clear hT hg hch hr0
           go_wp2_with fail
           go_meet
           case rel => exact ⟨st, F, r, d, rfl, rfl, ⟨by have := HI.out; omega⟩, HAT, HS2, HSO⟩
        have f34 : (rd l i0 == 34) = false := beq_eq_false_iff_ne.mpr c34
        have f123 : (rd l i0 == 123) = false := beq_eq_false_iff_ne.mpr c123
        have f91 : (rd l i0 == 91) = false := beq_eq_false_iff_ne.mpr c91
        have f116 : (rd l i0 == 116) = false := beq_eq_false_iff_ne.mpr c116
        have f102 : (rd l i0 == 102) = false := beq_eq_false_iff_ne.mpr c102
        have f110 : (rd l i0 == 110) = false := beq_eq_false_iff_ne.mpr c110
        have f45 : (rd l i0 == 45) = false := beq_eq_false_iff_ne.mpr (fun h => hnum (.inl h))
        clear c34 c123 c91 c116 c102 c110
        by_cases h48 : 48 ≤ rd l i0
        ·have f46 : decide (48 ≤ rd l i0) = true := decide_eq_true h48
         have f47 : decide (rd l i0 ≤ 57) = false := decide_eq_false (fun h => hnum (.inr ⟨h48, h⟩))
         clear hnum h48
         go_wp2_with fail
         go_ret
         exact ⟨⟨false, rfl, fun h => by cases h⟩, HS.out.below⟩
        have f46 : decide (48 ≤ rd l i0) = false := decide_eq_false h48
        clear hnum h48
        go_wp2_with fail
        go_ret
        exact ⟨⟨false, rfl, fun h => by cases h⟩, HS.out.below⟩
      case rest =>
       as_aux_lemma =>
        have H5 := Aside0.mk i5
        clear HI HV HS HSO hd0 hd64 i5
        obtain ⟨st, F, i, d, rfl, rfl, HI, HCC, HS, HSO⟩ := hcut
        obtain ⟨i1, i2, i3, i4⟩ := HI.out
        clear i3 i4
        go_wp2_with fail
        go_loopg [6, 8] (l.length + 1) (fun kq v6 v8 wx => ∃ (st : List Br) (F : Nat → Int) (i d : Int), v6 = .int .i64 d ∧ v8 = .int .i64 i ∧ Aside0 (i0 < i ∧ i ≤ l.length ∧ d = st.length ∧ st.length ≤ 64 ∧ (l.length : Int) + 1 ≤ i + kq) ∧ Aside0 (AtC q (l ++ [0]) st i) ∧ Aside0 (Stk w wx F) ∧ Aside0 (StkOf F st))
        case atStart => exact ⟨st, F, i, d, rfl, rfl, ⟨by have := HI.out; omega⟩, HCC, HS, HSO⟩
        case round =>
         as_aux_lemma =>
          clear HI HCC HS HSO
          obtain ⟨st, F, i, d, rfl, rfl, HI, HCC, HS, HSO⟩ := hrel
          obtain ⟨i1, i2, i3, i4, i5⟩ := HI.out
          have ei1 : wrap64 (i + 1) = i + 1 := by unfold wrap64; omega
          have ei2 : wrap64 (i + 1 + 1) = i + 1 + 1 := by unfold wrap64; omega
          rcases st with _ | ⟨b, rs⟩
          ·have fd : (d == 0) = true := beq_iff_eq.mpr i3
           clear i3 i4
           by_cases hend : i = l.length
           ·have HGOOD := Aside0.mk (HCC.out.good HT.out (by have := HLEN.out; omega))
            have fe : (i == (l.length : Int)) = true := beq_iff_eq.mpr hend
            clear hend
            go_wp2_with fail
            go_ret
            exact ⟨⟨_, rfl, fun _ => HGOOD.out⟩, HS.out.below⟩
           ·have fe : (i == (l.length : Int)) = false := beq_eq_false_iff_ne.mpr hend
            clear hend
            go_wp2_with fail
            go_ret
            exact ⟨⟨false, rfl, fun h => by cases h⟩, HS.out.below⟩
          ·have hd1 : d = (rs.length : Int) + 1 := i3
           have hd64 : d ≤ 64 := by have h := i4; simp only [List.length_cons] at h; omega
           have fd : (d == 0) = false := beq_eq_false_iff_ne.mpr (by omega)
           have edm : wrap64 (d - 1) = d - 1 := by unfold wrap64; omega
           obtain ⟨hs1, hs2⟩ := HS.out.cell (d.toNat - 1) (by omega)
           have hs3 : F (d.toNat - 1) = shutB b := by rw [show d.toNat - 1 = rs.length by omega]; exact HSO.out.1
           have hbk := HSO.out.2.1
           have HD := Aside0.mk hd1
           have hdp : 0 < d := by omega
           clear i3 i4 hd1
           by_cases hin : i < l.length
           ·have dn : decide ((l.length : Int) ≤ i) = false := decide_eq_false (by omega)
            obtain ⟨ad2, hA, hxi⟩ := Kd.at_int (Kd.C_below HC.out HS.out.below) i (by omega) hin
            cases hA
            obtain ⟨top, htop⟩ : ∃ top, top = shutB b := ⟨_, rfl⟩
            rw [hs3, ← htop] at hs1
            clear hs3 hs2
            by_cases h44 : rd l i = 44
            ·have H44 := Aside0.mk h44
             rw [h44] at hxi
             clear h44
             rcases b with _ | _ | _
             ·have ht : top = 125 := htop
              subst ht
              clear htop hbk
              by_cases hqn : i + 1 < (l.length : Int)
              ·have dn1 : decide ((l.length : Int) ≤ i + 1) = false := decide_eq_false (by omega)
               obtain ⟨ad3, hA, hxj⟩ := Kd.at_int (Kd.C_below HC.out HS.out.below) (i + 1) (by omega) hqn
               cases hA
               by_cases h34 : rd l (i + 1) = 34
               ·have H34 := Aside0.mk h34
                rw [h34] at hxj
                clear h34
                go_upto_if 195 with (fail)
                go_cut [8] from 13 to 227 (fun v8 wx => ∃ r : Int, v8 = .int .i64 r ∧ Aside0 (QE l (i + 1) r) ∧ Aside0 (Stk w wx F))
                case first =>
                 as_aux_lemma =>
                  obtain _ | _ := plain
                  ·have HCALL := Aside0.mk (HQ.out _ (i + 1) HS.out.below (by omega) hqn H34.out).2
                   go_wp2_with fail
                   with_reducible refine HCALL.out.mono ?_
                   rintro e w2 ⟨⟨r, rfl, hr⟩, hd2⟩
                   have HR := Aside0.mk hr
                   have HS2 := Aside0.mk (HS.out.step hd2.below)
                   clear hr hd2
                   go_wp2_with fail
                   go_meet
                   case rel => exact ⟨r, rfl, HR, HS2⟩
                  ·have HCALL := Aside0.mk ((HQ.out _ (i + 1) HS.out.below (by omega) hqn H34.out).1 rfl)
                   go_wp2_with fail
                   with_reducible refine HCALL.out.mono ?_
                   rintro e w2 ⟨⟨r, rfl, hr⟩, hd2⟩
                   have HR := Aside0.mk hr
                   have HS2 := Aside0.mk (HS.out.step hd2.below)
                   clear hr hd2
                   go_wp2_with fail
                   go_meet
                   case rel => exact ⟨r, rfl, HR, HS2⟩
                case rest =>
                 as_aux_lemma =>
                  clear HS hxi hxj hs1
                  obtain ⟨r, rfl, HR, HS⟩ := hcut
                  by_cases hr0 : r < 0
                  ·have dr : decide (r < 0) = true := decide_eq_true hr0
                   clear hr0
                   go_wp2_with fail
                   go_ret
                   exact ⟨⟨false, rfl, fun h => by cases h⟩, HS.out.below⟩
                  ·have dr : decide (r < 0) = false := decide_eq_false hr0
                   obtain ⟨T, hT⟩ : ∃ T, fstr (l ++ [0]) false (i + 1) = some (r, T) := by
                    rcases HR.out with h | h
                    ·omega
                    ·exact h
                   have hrb := fstr_ok (q := q) HT.out (by omega) (by have := HLEN.out; omega) hT
                   have HFS := Aside0.mk hT
                   have hr1 : (i + 1) + 1 < r ∧ r ≤ l.length := by have := HLEN.out; omega
                   clear hT hrb hr0
                   by_cases hrn : r < l.length
                   ·have dn : decide ((l.length : Int) ≤ r) = false := decide_eq_false (by omega)
                    obtain ⟨ad2, hA, hxi⟩ := Kd.at_int (Kd.C_below HC.out HS.out.below) r (by omega) hrn
                    cases hA
                    by_cases h58 : rd l r = 58
                    ·have H58 := Aside0.mk h58
                     rw [h58] at hxi
                     clear h58
                     have HAT := Aside0.mk (HCC.out.member (e := r) HT.out (by omega) (by have := HLEN.out; omega) (by rw [rdL (by omega) (by omega)]; exact H44.out) (by rw [rdL (by omega) (by omega)]; exact H34.out) HFS.out (by have := HLEN.out; omega) (by rw [rdL (by omega) (by omega)]; exact H58.out))
                     have er1 : wrap64 (r + 1) = r + 1 := by unfold wrap64; omega
                     go_wp2_with fail
                     go_roundg g0
                     case measure => omega
                     case rel => exact ⟨.obj :: rs, F, r + 1, d, rfl, by first | rfl | rw [er1], ⟨by have := HI.out; have := H5.out; omega⟩, HAT, HS, HSO⟩
                    ·have f58 : (rd l r != 58) = true := bne_iff_ne.mpr h58
                     clear h58
                     go_wp2_with fail
                     go_ret
                     exact ⟨⟨false, rfl, fun h => by cases h⟩, HS.out.below⟩
                   ·have dn : decide ((l.length : Int) ≤ r) = true := decide_eq_true (by omega)
                    clear hrn
                    go_wp2_with fail
                    go_ret
                    exact ⟨⟨false, rfl, fun h => by cases h⟩, HS.out.below⟩
               ·have f34 : (rd l (i + 1) != 34) = true := bne_iff_ne.mpr h34
                clear h34
                go_wp2_with fail
                go_ret
                exact ⟨⟨false, rfl, fun h => by cases h⟩, HS.out.below⟩
              ·have dn1 : decide ((l.length : Int) ≤ i + 1) = true := decide_eq_true (by omega)
               clear hqn
               go_wp2_with fail
               go_ret
               exact ⟨⟨false, rfl, fun h => by cases h⟩, HS.out.below⟩
             ·have ht : top = 93 := htop
              subst ht
              have HAT := Aside0.mk (HCC.out.item HT.out (by omega) (by have := HLEN.out; omega) (by rw [rdL (by omega) (by omega)]; exact H44.out))
              clear htop hbk
              go_wp2_with fail
              go_roundg g0
              case measure => omega
              case rel => exact ⟨.arr :: rs, F, i + 1, d, rfl, by first | rfl | rw [ei1], ⟨by have := HI.out; have := H5.out; omega⟩, HAT, HS, HSO⟩
             ·exact absurd rfl hbk
            ·have f44 : (rd l i == 44) = false := beq_eq_false_iff_ne.mpr h44
             by_cases hsh : rd l i = top
             ·have fsh : (rd l i == top) = true := beq_iff_eq.mpr hsh
              have HAT : Aside0 (AtC q (l ++ [0]) rs (i + 1)) := ⟨by
               have e := hsh.trans htop
               rcases b with _ | _ | _
               ·exact HCC.out.shutO HT.out (by omega) (by have := HLEN.out; omega) (by rw [rdL (by omega) (by omega)]; exact e)
               ·exact HCC.out.shutA HT.out (by omega) (by have := HLEN.out; omega) (by rw [rdL (by omega) (by omega)]; exact e)
               ·exact absurd rfl hbk⟩
              obtain _ | g1 := gk
              ·exfalso; omega
              clear h44 hsh htop hbk
              go_wp2_with fail
              go_roundg g1
              case measure => omega
              case rel => exact ⟨rs, F, i + 1, d - 1, by first | rfl | rw [edm], by first | rfl | rw [ei1], ⟨by have h1 := HI.out; have h2 := HD.out; simp only [List.length_cons] at h1; omega⟩, HAT, HS, ⟨HSO.out.2.2⟩⟩
             ·have fsh : (rd l i == top) = false := beq_eq_false_iff_ne.mpr hsh
              clear h44 hsh htop hbk
              go_wp2_with fail
              go_ret
              exact ⟨⟨false, rfl, fun h => by cases h⟩, HS.out.below⟩
           ·have dn : decide ((l.length : Int) ≤ i) = true := decide_eq_true (by omega)
            clear hin
            go_wp2_with fail
            go_ret
            exact ⟨⟨false, rfl, fun h => by cases h⟩, HS.out.below⟩
     ·have dn : decide ((l.length : Int) ≤ i0) = true := decide_eq_true (by omega)
      clear hin
      go_wp2_with fail
      go_ret
      exact ⟨⟨false, rfl, fun h => by cases h⟩, HS.out.below⟩
end
end Go.Proofs.YtbikiibpjdiaaaaDoor.Err
