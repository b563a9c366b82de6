/- The walk over compact JSON: where a text ends. -/
import Derived.Test.YtbikiibpjdiaaaaDoorFG
namespace Go.Proofs.YtbikiibpjdiaaaaDoor.Err
open Go.RowKit Go.Proofs.YtbikiibpjdiaaaaDoorW.PrintWords Go.Proofs.YtbikiibpjdiaaaaDoorW.PrintLast Go.Proofs.YtbikiibpjdiaaaaDoorW.PrintMore Go.Proofs.YtbikiibpjdiaaaaDoor.Swar Go.Proofs.YtbikiibpjdiaaaaDoor.Dig Go.Proofs.YtbikiibpjdiaaaaDoor.Tab Go.Proofs.YtbikiibpjdiaaaaDoor.QF Go.Proofs.YtbikiibpjdiaaaaDoor.Key
set_option linter.unusedVariables false
/-- No byte below one: none is told. -/
theorem comp_none (c : Nat) (hc : c = 1 ∨ c = 32) : ∀ l : List Nat, Bs l → (∀ b ∈ l, c ≤ b) → comp l.length (hw l) c &&& hw (List.replicate l.length 128) = 0
 | [], _, _ => by simp [hw]
 | b :: r, h, hge => by
  have hb := bs_head h
  have hr := bs_tail h
  have ih := comp_none c hc r hr (fun x hx => hge x (by simp [hx]))
  have hF := hw_lt r hr
  show comp (r.length + 1) (b + 256 * hw r) c &&& (128 + 256 * hw (List.replicate r.length 128)) = 0
  rw [comp_ok r.length b (hw r) c hb hF (hge b (by simp)), and_step _ _ _ _ (Nat.lt_of_le_of_lt Nat.and_le_right (by omega)) (by decide), ih]
  have lane : ∀ b : Fin 256, ((b.1 - 1) &&& (255 - b.1)) &&& 128 = 0 ∧ ((b.1 - 32) &&& (255 - b.1)) &&& 128 = 0 := by decide +kernel
  have := lane ⟨b, hb⟩
  rcases hc with rfl | rfl
  ·rw [this.1]
  ·rw [this.2]
/-- The word's operations where no byte is a control character. -/
structure QuoOps (W q b s1 a1 s2 a2 o1 m : Int) : Prop where
 e_xq : Go.bits .xor .u64 W 2459565876494606882 = q
 e_xb : Go.bits .xor .u64 W 6655295901103053916 = b
 e_s1 : IntKind.u64.wrap (q - 72340172838076673) = s1
 e_a1 : Go.bits .andNot .u64 s1 q = a1
 e_s2 : IntKind.u64.wrap (b - 72340172838076673) = s2
 e_a2 : Go.bits .andNot .u64 s2 b = a2
 e_o1 : Go.bits .or .u64 a1 a2 = o1
 e_m : Go.bits .and .u64 o1 9259542123273814144 = m
theorem quo_ops (l : List Nat) (hl : l.length = 8) (h : Bs l) (h32 : ∀ b ∈ l, 32 ≤ b) : ∃ q b s1 a1 s2 a2 o1, QuoOps ((hw l : Nat) : Int) q b s1 a1 s2 a2 o1 ((mask l : Nat) : Int) ∧ ((∀ b ∈ l, b ≠ 92) → Go.bits .and .u64 a1 9259542123273814144 = ((mask l : Nat) : Int)) := by
 have lt : hw l < 18446744073709551616 := by have := hw_lt l h; rw [hl] at this; exact this
 have bq := xor_bs l 34 (by decide) h
 have bs := xor_bs l 92 (by decide) h
 have lq : hw (l.map (· ^^^ 34)) < 18446744073709551616 := by have := hw_lt _ bq; rw [len_map, hl] at this; exact this
 have ls : hw (l.map (· ^^^ 92)) < 18446744073709551616 := by have := hw_lt _ bs; rw [len_map, hl] at this; exact this
 have eq1 : Go.bits .xor .u64 ((hw l : Nat) : Int) 2459565876494606882 = ((hw (l.map (· ^^^ 34)) : Nat) : Int) := by
  rw [← hw_xor l 34 h (by decide), hl]
  exact bits_xor (hw l) 2459565876494606882 lt (by decide)
 have eq2 : Go.bits .xor .u64 ((hw l : Nat) : Int) 6655295901103053916 = ((hw (l.map (· ^^^ 92)) : Nat) : Int) := by
  rw [← hw_xor l 92 h (by decide), hl]
  exact bits_xor (hw l) 6655295901103053916 lt (by decide)
 have m (x : Nat) : x % 18446744073709551616 < 18446744073709551616 := Nat.mod_lt _ (by decide)
 have al (x y : Nat) (hx : x < 18446744073709551616) : x &&& y < 18446744073709551616 := Nat.lt_of_le_of_lt Nat.and_le_left hx
 have c1 := sub_wrap _ 72340172838076673 lq (by decide)
 have c2 := sub_wrap _ 72340172838076673 ls (by decide)
 have n32 := comp_none 32 (.inr rfl) l h h32
 have hmask : mask l = (comp l.length (hw (l.map (· ^^^ 34))) 1 ||| comp l.length (hw (l.map (· ^^^ 92))) 1) &&& hw (List.replicate l.length 128) := by
  unfold mask
  rw [Nat.and_or_distrib_right (comp l.length (hw (l.map (· ^^^ 34))) 1 ||| comp l.length (hw (l.map (· ^^^ 92))) 1), n32, Nat.or_zero]
 have hM : (9259542123273814144 : Int) = ((9259542123273814144 : Nat) : Int) := rfl
 refine ⟨_, _, _, _, _, _, _, ⟨eq1, eq2, c1, Swar.bits_andNot _ _ (m _) lq, c2, Swar.bits_andNot _ _ (m _) ls, Swar.bits_or _ _ (al _ _ (m _)) (al _ _ (m _)), ?_⟩, fun h92 => ?_⟩
 ·rw [hM, Swar.bits_and _ _ (Nat.or_lt_two_pow (n := 64) (al _ _ (m _)) (al _ _ (m _))) (by decide), hmask]
  unfold comp
  rw [hl]
  rfl
 ·have n92 := comp_none 1 (.inl rfl) (l.map (· ^^^ 92)) bs (fun b hb => by
   obtain ⟨x, hx, rfl⟩ := List.mem_map.1 hb
   have hne := h92 x hx
   have lane : ∀ b : Fin 256, b.1 = 92 ∨ 1 ≤ b.1 ^^^ 92 := by decide +kernel
   rcases lane ⟨x, h x hx⟩ with h0 | h0
   ·exact absurd h0 hne
   ·exact h0)
  rw [len_map] at n92
  rw [hM, Swar.bits_and _ _ (al _ _ (m _)) (by decide), hmask, Nat.and_or_distrib_right (comp l.length (hw (l.map (· ^^^ 34))) 1), n92, Nat.or_zero]
  unfold comp
  rw [hl]
  rfl
section
variable {w w' : World} {A : Option Addr} {ad : Addr} {c : Nat} {l : List Int} {x y : Int}
/-- Bytes that have no control characters. -/
structure High (l : List Int) : Prop where
 byt : ∀ y ∈ l, 32 ≤ y ∧ y < 256
 len : l.length ≤ 70000000
theorem High.low (h : High l) : ∀ y, y ∈ l → 0 ≤ y ∧ y < 256 := fun y hy => by have := h.byt y hy; omega
theorem High.txt (h : High l) : Txt (l ++ [0]) := txt_of h.low h.len
theorem word_quo (h : High l) (c : Int) (h0 : 0 ≤ c) (h8 : c + 8 ≤ l.length) : ∃ W q b s1 a1 s2 a2 o1 m, gojsonformat_le64.f (l.drop c.toNat) = some W ∧ QuoOps W q b s1 a1 s2 a2 o1 m ∧ ((∀ y ∈ l, y ≠ 92) → Go.bits .and .u64 a1 9259542123273814144 = m) ∧
  ((m = 0 ∧ ∀ k, c ≤ k → k < c + 8 → Plain (rd l k)) ∨ (m ≠ 0 ∧ ∃ t j : Int, 0 ≤ j ∧ j < 8 ∧ tz64.f m = some t ∧ Int.tdiv t 8 = j ∧ (∀ k, c ≤ k → k < c + j → Plain (rd l k)) ∧ ¬ Plain (rd l (c + j)))) := by
 obtain ⟨i, rfl⟩ := Int.eq_ofNat_of_zero_le h0
 have hb : Bytes l := fun y hy => h.low y hy
 have hl := nb_length l 8 i
 have hbs := nb_bs l hb 8 i
 have mem : ∀ k : Int, 0 ≤ k → k < l.length → rd l k ∈ l := fun k h1 h2 => by obtain ⟨_, e⟩ := rd_get l k h1 h2; rw [e]; exact List.getElem_mem _
 have get : ∀ j, j < 8 → (nb l 8 i).getD j 0 = (rd l ((i : Int) + j)).toNat := fun j hj => by
  rw [nb_get l 8 i j hj, show (((i + j : Nat)) : Int) = (i : Int) + j by omega]
 have pos : ∀ j : Nat, j < 8 → 32 ≤ rd l ((i : Int) + j) := fun j hj => (h.byt _ (mem _ (by omega) (by omega))).1
 have all : ∀ b ∈ nb l 8 i, ∃ j, j < 8 ∧ b = (rd l ((i : Int) + (j : Nat))).toNat := fun b hb => by
  obtain ⟨j, hj, rfl⟩ := List.mem_iff_getElem.1 hb
  rw [hl] at hj
  refine ⟨j, hj, ?_⟩
  rw [← get j hj, List.getD_eq_getElem?_getD, List.getElem?_eq_getElem (by omega)]
  rfl
 obtain ⟨q, b, s1, a1, s2, a2, o1, hk, hk2⟩ := quo_ops _ hl hbs (fun b hb => by obtain ⟨j, hj, rfl⟩ := all b hb; have := pos j hj; omega)
 refine ⟨((hw (nb l 8 i) : Nat) : Int), q, b, s1, a1, s2, a2, o1, ((mask (nb l 8 i) : Nat) : Int), le64F l hb i (by omega), hk, fun h92 => hk2 (fun b hb => ?_), ?_⟩
 ·obtain ⟨j, hj, rfl⟩ := all b hb
  have h1 := h92 _ (mem ((i : Int) + j) (by omega) (by omega))
  have h2 := pos j hj
  omega
 by_cases hm : mask (nb l 8 i) = 0
 ·refine .inl ⟨by rw [hm]; rfl, fun k h1 h2 => ?_⟩
  obtain ⟨j, rfl⟩ : ∃ j : Nat, k = (i : Int) + j := ⟨(k - i).toNat, by omega⟩
  have hj : j < 8 := by omega
  have := mask_zero _ hbs hm ((nb l 8 i).getD j 0) (by rw [List.getD_eq_getElem?_getD, List.getElem?_eq_getElem (by omega)]; exact List.getElem_mem _)
  rw [get j hj] at this
  exact (special_plain (by have := pos j hj; omega)).1 this
 ·obtain ⟨j, h1, h2, h3, h4⟩ := mask_first _ hbs hm 64 (by omega)
  rw [hl] at h2
  refine .inr ⟨by omega, 8 * (j : Int) + 7, (j : Int), by omega, by omega, ?_, ?_, fun k h5 h6 => ?_, ?_⟩
  ·have hlt : mask (nb l 8 i) < 18446744073709551616 := Nat.lt_of_le_of_lt Nat.and_le_right (by rw [hl]; decide)
   unfold tz64.f
   rw [if_pos ⟨by omega, by omega⟩, Int.toNat_natCast]
   unfold Lib.ctz
   first | rw [if_neg hm, h1] | rw [h1]
   congr 1
  ·rw [Int.tdiv_eq_ediv_of_nonneg (by omega)]
   omega
  ·obtain ⟨m, rfl⟩ : ∃ m : Nat, k = (i : Int) + m := ⟨(k - i).toNat, by omega⟩
   have := h4 m (by omega)
   rw [get m (by omega)] at this
   exact (special_plain (by have := pos m (by omega); omega)).1 this
  ·rw [get j h2] at h3
   exact (special_plain (by have := pos j h2; omega)).2 h3
/-- The eight bytes at a place. -/
theorem le64_C (hC : Kd.C (Kd.int .u8) w (some ad) l.length l) (hcap : l.length ≤ c) (b : Int) (h0 : 0 ≤ b) (h8 : b + 8 ≤ l.length) {W : Int} (hW : gojsonformat_le64.f (l.drop b.toNat) = some W) :
  Calls Tryd.prog 69 #[.slice (some (ad.add b.toNat)) (l.length - b.toNat) (c - b.toNat)] w fun e w' => e = .returned (.int .u64 W) ∧ Drawn0 w w' := by
 have hl : (l.drop b.toNat).length = l.length - b.toNat := List.length_drop
 have hR := ReadsOf.drop_ (c := c) (Kd.reads_of_C (enc := Value.int .u8) (d := (0 : Int)) (h1 := fun _ => rfl) hC) b.toNat (by omega) hcap
 rw [if_neg (by omega)] at hR
 have hc := gojsonformat_le64.calls (some (ad.add b.toNat)) (c - b.toNat) (l.drop b.toNat) W w (by rw [hl]; exact Kd.C_of_reads (h1 := fun _ => rfl) hR) (by rw [hl]; omega) hW
 rw [hl] at hc
 exact hc
/-- Where a text ends whose quote stands at x; -1: there is none. -/
def QE (l : List Int) (x r : Int) : Prop := (r = -1 ∧ fstr (l ++ [0]) false x = none) ∨ ∃ T, fstr (l ++ [0]) false x = some (r, T)
theorem rd_mem (h0 : 0 ≤ y) (h1 : y < l.length) : rd l y ∈ l := by obtain ⟨_, e⟩ := rd_get l y h0 h1; rw [e]; exact List.getElem_mem _
theorem plain_L {a b : Int} (h0 : 0 ≤ a) (hb : b ≤ l.length) (h : ∀ k, a ≤ k → k < b → Plain (rd l k)) : ∀ k, a ≤ k → k < b → Plain (rd (l ++ [0]) k) := fun k h1 h2 => by rw [rdL (by omega) (by omega)]; exact h k h1 h2
set_option maxRecDepth 100000 in
set_option maxHeartbeats 8000000 in
theorem quoteEnd (hC : Kd.C (Kd.int .u8) w A l.length l) (hcap : l.length ≤ c) (hG : Glob w) (hH : High l) (h92 : ∀ y ∈ l, y ≠ 92) (h0 : 0 ≤ x) (h1 : x < l.length) (hq : rd l x = 34) :
  Calls Tryd.prog 51 #[.slice A l.length c, .int .i64 (x + 1)] w fun e w' => (∃ r, e = .returned (.int .i64 r) ∧ QE l x r) ∧ Drawn0 w w' := by
 have hlen : ((l ++ [(0 : Int)]).length : Int) = l.length + 1 := by rw [List.length_append]; rfl
 have hsm := hH.len
 obtain ⟨ad, rfl, _⟩ := Kd.at_int hC x h0 h1
 have HT := Aside0.mk hH.txt
 have HC := Aside0.mk hC
 have HH := Aside0.mk hH
 have HTAB := Aside0.mk hG
 have H92 := Aside0.mk h92
 have HLEN := Aside0.mk hlen
 have HST : Aside0 (TextAt (l ++ [0]) false x x (x + 1) []) := ⟨ta_start h0 (by omega) (by rw [rdL h0 h1]; exact hq)⟩
 clear hC hH hG h92 hq hlen
 go_enter Tryd.func51, Tryd.ntmps51
 go_upto_block 0 with (fail)
 go_cut [1] from 8 to 45 (fun v1 wx => ∃ b : Int, v1 = .int .i64 b ∧ Aside0 (x + 1 ≤ b ∧ b ≤ l.length) ∧ Aside0 (TextAt (l ++ [0]) false x x b []) ∧ Drawn0 w wx)
 case first =>
  go_wp2_with fail
  go_loopg [1] (l.length + 1) (fun kq v1 w' => ∃ b : Int, v1 = .int .i64 b ∧ Aside0 (x + 1 ≤ b ∧ b ≤ l.length ∧ (l.length : Int) + 1 ≤ b + kq) ∧ Aside0 (TextAt (l ++ [0]) false x x b []) ∧ Drawn0 w w')
  case atStart => exact ⟨x + 1, rfl, ⟨by omega, by omega, by omega⟩, HST, Drawn0.refl _⟩
  case round =>
   obtain ⟨b, rfl, HB, HTB, ⟨m1, rfl⟩⟩ := hrel
   obtain ⟨b1, b2, b3⟩ := HB.out
   obtain _ | g1 := gk
   ·exfalso; omega
   have hx0 : 0 ≤ b := by omega
   have e8 : wrap64 (b + 8) = b + 8 := by unfold wrap64; omega
   by_cases h8 : b + 8 ≤ l.length
   ·have d8 : decide (b + 8 ≤ (l.length : Int)) = true := decide_eq_true h8
    have g2 : (b ≤ (l.length : Int)) = True := eq_true (by omega)
    have g3 : b.toNat < c := by omega
    obtain ⟨W, q1, q2, s1, a1, s2, a2, o1, m, hW, hK, hK2, hm⟩ := word_quo HH.out b hx0 h8
    have k9 := hK2 H92.out
    have HW : Aside0 (∀ n, Calls Tryd.prog 69 #[.slice (some (ad.add b.toNat)) (l.length - b.toNat) (c - b.toNat)] (w.drewN n) fun e w' => e = .returned (.int .u64 W) ∧ Drawn0 (w.drewN n) w') := ⟨fun n => le64_C (Kd.C_below HC.out (pw_below_drewN (Below.refl _ _) n)) hcap b hx0 h8 hW⟩
    have HM := Aside0.mk (And.intro b1 (And.intro b2 (And.intro b3 h8)))
    obtain ⟨k1, k2, k3, k4, k5, k6, k7, k8⟩ := hK
    rcases hm with ⟨rfl, hp⟩ | ⟨hm0, t, j, j0, j1, htz, hq, hp, hnp⟩
    ·have HTB2 := Aside0.mk (ta_plain HTB.out HT.out h0 (by omega) (show b + 8 < ((l ++ [(0 : Int)]).length : Int) by have := HLEN.out; omega) (by omega) (plain_L hx0 h8 hp))
     clear hW hp b1 b2 b3 h8 HB hK2 k2 k5 k6 k7 k8
     go_wp2_with fail
     with_reducible refine (HW.out _).mono ?_
     rintro e w1 ⟨rfl, ⟨m2, rfl⟩⟩
     go_wp2_with fail
     go_roundg g1
     case measure => omega
     case rel => exact ⟨b + 8, by first | rfl | rw [e8], ⟨by have := HM.out; omega, by have := HM.out; omega, by have := HM.out; omega⟩, HTB2, by first | exact ⟨_, rfl⟩ | (repeat (first | exact Drawn0.refl _ | apply Drawn0.step))⟩
    ·have hlt : b + j < l.length := by omega
     have HTB2 := Aside0.mk (ta_plain HTB.out HT.out h0 (by omega) (show b + j < ((l ++ [(0 : Int)]).length : Int) by have := HLEN.out; omega) (by omega) (plain_L hx0 (by omega) hp))
     have hq34 : rd l (b + j) = 34 := by
      have h1 := HH.out.byt _ (rd_mem (l := l) (y := b + j) (by omega) hlt)
      have h2 := H92.out _ (rd_mem (l := l) (y := b + j) (by omega) hlt)
      unfold Plain at hnp
      omega
     have HRES := Aside0.mk (ta_quote HTB2.out HT.out h0 (by omega) (by have := HLEN.out; omega) (by rw [rdL (by omega) hlt]; exact hq34))
     have hmf : (m == 0) = false := beq_eq_false_iff_ne.mpr hm0
     have HTZ : Aside0 (∀ n, Calls Tryd.prog 70 #[.int .u64 m] (w.drewN n) fun e w' => e = .returned (.int .i64 t) ∧ Drawn0 (w.drewN n) w') := ⟨fun n => tz64.calls m t (w.drewN n) ⟨HTAB.out.tab⟩ htz⟩
     have ej : wrap64 j = j := by unfold wrap64; omega
     have ebj : wrap64 (b + j) = b + j := by unfold wrap64; omega
     have ebj1 : wrap64 (b + j + 1) = b + j + 1 := by unfold wrap64; omega
     clear hW hp hnp b1 b2 b3 h8 HB hm0 htz j0 j1 hK2 k2 k5 k6 k7 k8 hq34 hlt
     go_wp2_with fail
     with_reducible refine (HW.out _).mono ?_
     rintro e w1 ⟨rfl, ⟨m2, rfl⟩⟩
     go_wp2_with fail
     with_reducible refine (HTZ.out _).mono ?_
     rintro e w1 ⟨rfl, ⟨m3, rfl⟩⟩
     go_wp2_with fail
     go_ret
     exact ⟨⟨b + j + 1, by first | rfl | simp [ebj, ebj1], .inr ⟨_, HRES.out⟩⟩, by first | exact ⟨_, rfl⟩ | (repeat (first | exact Drawn0.refl _ | apply Drawn0.step))⟩
   ·have d8 : decide (b + 8 ≤ (l.length : Int)) = false := decide_eq_false h8
    clear h8
    go_wp2_with fail
    go_meet
    case rel => exact ⟨b, rfl, ⟨b1, b2⟩, HTB, by first | exact ⟨_, rfl⟩ | (repeat (first | exact Drawn0.refl _ | apply Drawn0.step))⟩
 case rest =>
  obtain ⟨b0, rfl, HB0, HTB0, ⟨m0, rfl⟩⟩ := hcut
  have hb0 := HB0.out
  go_wp2_with fail
  go_loopg [1] (l.length + 1) (fun kq v1 w' => ∃ b : Int, v1 = .int .i64 b ∧ Aside0 (x + 1 ≤ b ∧ b ≤ l.length ∧ (l.length : Int) + 1 ≤ b + kq) ∧ Aside0 (TextAt (l ++ [0]) false x x b []) ∧ Drawn0 w w')
  case atStart => exact ⟨b0, rfl, ⟨by omega, by omega, by omega⟩, HTB0, ⟨_, rfl⟩⟩
  case round =>
   obtain ⟨b, rfl, HB, HTB, ⟨m1, rfl⟩⟩ := hrel
   obtain ⟨b1, b2, b3⟩ := HB.out
   obtain _ | g1 := gk
   ·exfalso; omega
   have hx0 : 0 ≤ b := by omega
   have e1 : wrap64 (b + 1) = b + 1 := by unfold wrap64; omega
   by_cases hbl : b < l.length
   ·have d8 : decide (b < (l.length : Int)) = true := decide_eq_true hbl
    obtain ⟨ad2, hA, hxi⟩ := Kd.at_int (Kd.C_below HC.out (pw_below_drewN (Below.refl _ _) m1)) b hx0 hbl
    cases hA
    have h1 := HH.out.byt _ (rd_mem (l := l) hx0 hbl)
    have h2 := H92.out _ (rd_mem (l := l) hx0 hbl)
    by_cases hq : rd l b = 34
    ·have f34 : (rd l b == 34) = true := beq_iff_eq.mpr hq
     have HRES := Aside0.mk (ta_quote HTB.out HT.out h0 (by omega) (by have := HLEN.out; omega) (by rw [rdL hx0 hbl]; exact hq))
     clear hq h1 h2 hb0 b1 b2 b3
     go_wp2_with fail
     go_ret
     exact ⟨⟨b + 1, by first | rfl | simp [e1], .inr ⟨_, HRES.out⟩⟩, by first | exact ⟨_, rfl⟩ | (repeat (first | exact Drawn0.refl _ | apply Drawn0.step))⟩
    ·have f34 : (rd l b == 34) = false := beq_eq_false_iff_ne.mpr hq
     have HTB2 := Aside0.mk (ta_other HTB.out HT.out h0 (by omega) (by have := HLEN.out; omega) (by rw [rdL hx0 hbl]; exact hq) (by rw [rdL hx0 hbl]; exact h2) (by rw [rdL hx0 hbl]; omega) (fun h => by cases h.1) (fun h => by cases h.1))
     clear hq h1 h2 hb0
     go_wp2_with fail
     go_roundg g1
     case measure => omega
     case rel => exact ⟨b + 1, by first | rfl | rw [e1], ⟨by omega, by omega, by omega⟩, HTB2, by first | exact ⟨_, rfl⟩ | (repeat (first | exact Drawn0.refl _ | apply Drawn0.step))⟩
   ·have d8 : decide (b < (l.length : Int)) = false := decide_eq_false hbl
    have HNO := Aside0.mk (ta_low (y := b) HTB.out HT.out h0 (by omega) (by have := HLEN.out; omega) (by rw [show b = ((l ++ [(0 : Int)]).length : Int) - 1 by have := HLEN.out; omega, HT.out.last]; omega))
    clear hbl hb0
    go_wp2_with fail
    go_ret
    exact ⟨⟨-1, rfl, .inl ⟨rfl, HNO.out⟩⟩, by first | exact ⟨_, rfl⟩ | (repeat (first | exact Drawn0.refl _ | apply Drawn0.step))⟩
/-- The eight bytes' walk of a text that may have escapes, and what follows. -/
theorem esc_call_l (hC : Kd.C (Kd.int .u8) w A l.length l) (hcap : l.length ≤ c) (hl : l.length ≤ 70000000) (h0 : 0 ≤ y) (h1 : y ≤ l.length) :
  Calls Tryd.prog 71 #[.slice A l.length c, .int .i64 y] w fun e w' => e = .returned (.int .i64 (if y < l.length then escL l y else -1)) ∧ Drawn0 w w' :=
 escEnd.calls A c l y _ w hC hcap (by unfold escEnd.f; rw [if_pos ⟨h0, by omega⟩])
theorem escL_L (hT : Txt (l ++ [0])) (h0 : 0 ≤ y) (h1 : y ≤ l.length) : (if y < l.length then escL l y else -1) = escI (l ++ [0]) y := by
 have h := escL_eq hT y h0 (by rw [List.length_append, List.length_singleton]; omega)
 have e : (l ++ [(0 : Int)]).take ((l ++ [(0 : Int)]).length - 1) = l := by rw [List.length_append, List.length_singleton, Nat.add_sub_cancel, List.take_left]
 rw [e] at h
 exact h
set_option maxRecDepth 100000 in
set_option maxHeartbeats 8000000 in
theorem escapedQuoteEnd (hC : Kd.C (Kd.int .u8) w A l.length l) (hcap : l.length ≤ c) (hG : Glob w) (hH : High l) (h0 : 0 ≤ x) (h1 : x < l.length) (hq : rd l x = 34) :
  Calls Tryd.prog 52 #[.slice A l.length c, .int .i64 (x + 1)] w fun e w' => (∃ r, e = .returned (.int .i64 r) ∧ QE l x r) ∧ Drawn0 w w' := by
 have hlen : ((l ++ [(0 : Int)]).length : Int) = l.length + 1 := by rw [List.length_append]; rfl
 have hsm := hH.len
 obtain ⟨ad, rfl, _⟩ := Kd.at_int hC x h0 h1
 have HT := Aside0.mk hH.txt
 have HC := Aside0.mk hC
 have HH := Aside0.mk hH
 have HTAB := Aside0.mk hG
 have HLEN := Aside0.mk hlen
 have HST : Aside0 (TextAt (l ++ [0]) false x x (x + 1) []) := ⟨ta_start h0 (by omega) (by rw [rdL h0 h1]; exact hq)⟩
 clear hC hH hG hq hlen
 go_enter Tryd.func52, Tryd.ntmps52
 go_wp2_with fail
 go_loopg [1] (l.length + 1) (fun kq v1 w' => ∃ y : Int, v1 = .int .i64 y ∧ Aside0 (x + 1 ≤ y ∧ y ≤ l.length ∧ (l.length : Int) + 1 ≤ y + kq) ∧ Aside0 (TextAt (l ++ [0]) false x x y []) ∧ Drawn0 w w')
 case atStart => exact ⟨x + 1, rfl, ⟨by omega, by omega, by omega⟩, HST, Drawn0.refl _⟩
 case round =>
  obtain ⟨y0, rfl, HY, HTA, ⟨m9, rfl⟩⟩ := hrel
  obtain ⟨y1, y2, y3⟩ := HY.out
  obtain _ | g0 := gk
  ·exfalso; omega
  go_upto_block 2 with (fail)
  go_cut [1] from 12 to 77 (fun v1 wx => ∃ b : Int, v1 = .int .i64 b ∧ Aside0 (y0 ≤ b ∧ b ≤ l.length) ∧ Aside0 (TextAt (l ++ [0]) false x x b []) ∧ Drawn0 w wx)
  case first =>
   go_wp2_with fail
   go_loopg [1] (l.length + 1) (fun kq v1 w' => ∃ b : Int, v1 = .int .i64 b ∧ Aside0 (y0 ≤ b ∧ b ≤ l.length ∧ (l.length : Int) + 1 ≤ b + kq) ∧ Aside0 (TextAt (l ++ [0]) false x x b []) ∧ Drawn0 w w')
   case atStart => exact ⟨y0, rfl, ⟨by omega, by omega, by omega⟩, HTA, ⟨_, rfl⟩⟩
   case round =>
    obtain ⟨b, rfl, HB, HTB, ⟨m1, rfl⟩⟩ := hrel
    obtain ⟨b1, b2, b3⟩ := HB.out
    obtain _ | g1 := gk
    ·exfalso; omega
    have hx0 : 0 ≤ b := by omega
    have e8 : wrap64 (b + 8) = b + 8 := by unfold wrap64; omega
    by_cases h8 : b + 8 ≤ l.length
    ·have d8 : decide (b + 8 ≤ (l.length : Int)) = true := decide_eq_true h8
     have g2 : (b ≤ (l.length : Int)) = True := eq_true (by omega)
     have g3 : b.toNat < c := by omega
     obtain ⟨W, q1, q2, s1, a1, s2, a2, o1, m, hW, hK, hK2, hm⟩ := word_quo HH.out b hx0 h8
     have HW : Aside0 (∀ n, Calls Tryd.prog 69 #[.slice (some (ad.add b.toNat)) (l.length - b.toNat) (c - b.toNat)] (w.drewN n) fun e w' => e = .returned (.int .u64 W) ∧ Drawn0 (w.drewN n) w') := ⟨fun n => le64_C (Kd.C_below HC.out (pw_below_drewN (Below.refl _ _) n)) hcap b hx0 h8 hW⟩
     have HM := Aside0.mk (And.intro b1 (And.intro b2 (And.intro b3 h8)))
     obtain ⟨k1, k2, k3, k4, k5, k6, k7, k8⟩ := hK
     rcases hm with ⟨rfl, hp⟩ | ⟨hm0, t, j, j0, j1, htz, hq, hp, hnp⟩
     ·have HTB2 := Aside0.mk (ta_plain HTB.out HT.out h0 (by omega) (show b + 8 < ((l ++ [(0 : Int)]).length : Int) by have := HLEN.out; omega) (by omega) (plain_L hx0 h8 hp))
      clear hW hp b1 b2 b3 h8 HB hK2 y1 y2 y3
      go_wp2_with fail
      with_reducible refine (HW.out _).mono ?_
      rintro e w1 ⟨rfl, ⟨m2, rfl⟩⟩
      go_wp2_with fail
      go_roundg g1
      case measure => omega
      case rel => exact ⟨b + 8, by first | rfl | rw [e8], ⟨by have := HM.out; omega, by have := HM.out; omega, by have := HM.out; omega⟩, HTB2, by first | exact ⟨_, rfl⟩ | (repeat (first | exact Drawn0.refl _ | apply Drawn0.step))⟩
     ·have hlt : b + j < l.length := by omega
      have HTB2 := Aside0.mk (ta_plain HTB.out HT.out h0 (by omega) (show b + j < ((l ++ [(0 : Int)]).length : Int) by have := HLEN.out; omega) (by omega) (plain_L hx0 (by omega) hp))
      have hmf : (m == 0) = false := beq_eq_false_iff_ne.mpr hm0
      have HTZ : Aside0 (∀ n, Calls Tryd.prog 70 #[.int .u64 m] (w.drewN n) fun e w' => e = .returned (.int .i64 t) ∧ Drawn0 (w.drewN n) w') := ⟨fun n => tz64.calls m t (w.drewN n) ⟨HTAB.out.tab⟩ htz⟩
      have ej : wrap64 j = j := by unfold wrap64; omega
      have ebj : wrap64 (b + j) = b + j := by unfold wrap64; omega
      have HLT := Aside0.mk (And.intro hlt j0)
      clear hW hp hnp b1 b2 b3 h8 HB hm0 htz j0 j1 hK2 hlt y1 y2 y3
      go_wp2_with fail
      with_reducible refine (HW.out _).mono ?_
      rintro e w1 ⟨rfl, ⟨m2, rfl⟩⟩
      go_wp2_with fail
      with_reducible refine (HTZ.out _).mono ?_
      rintro e w1 ⟨rfl, ⟨m3, rfl⟩⟩
      go_wp2_with fail
      go_meet
      case rel => exact ⟨b + j, by first | rfl | simp [ebj], ⟨by have := HM.out; have := HLT.out; omega, by have := HLT.out; omega⟩, HTB2, by first | exact ⟨_, rfl⟩ | (repeat (first | exact Drawn0.refl _ | apply Drawn0.step))⟩
    ·have d8 : decide (b + 8 ≤ (l.length : Int)) = false := decide_eq_false h8
     clear h8
     go_wp2_with fail
     go_meet
     case rel => exact ⟨b, rfl, ⟨b1, b2⟩, HTB, by first | exact ⟨_, rfl⟩ | (repeat (first | exact Drawn0.refl _ | apply Drawn0.step))⟩
  case rest =>
   obtain ⟨b0, rfl, HB0, HTB0, ⟨m0, rfl⟩⟩ := hcut
   have hb0 := HB0.out
   go_upto_block 4 with (fail)
   go_cut [1] from 12 to 77 (fun v1 wx => ∃ b : Int, v1 = .int .i64 b ∧ Aside0 (y0 ≤ b ∧ b ≤ l.length ∧ (b = l.length ∨ rd l b = 34 ∨ rd l b = 92)) ∧ Aside0 (TextAt (l ++ [0]) false x x b []) ∧ Drawn0 w wx)
   case first =>
    go_wp2_with fail
    go_loopg [1] (l.length + 1) (fun kq v1 w' => ∃ b : Int, v1 = .int .i64 b ∧ Aside0 (y0 ≤ b ∧ b ≤ l.length ∧ (l.length : Int) + 1 ≤ b + kq) ∧ Aside0 (TextAt (l ++ [0]) false x x b []) ∧ Drawn0 w w')
    case atStart => exact ⟨b0, rfl, ⟨by omega, by omega, by omega⟩, HTB0, ⟨_, rfl⟩⟩
    case round =>
     obtain ⟨b, rfl, HB, HTB, ⟨m1, rfl⟩⟩ := hrel
     obtain ⟨b1, b2, b3⟩ := HB.out
     obtain _ | g1 := gk
     ·exfalso; omega
     have hx0 : 0 ≤ b := by omega
     have e1 : wrap64 (b + 1) = b + 1 := by unfold wrap64; omega
     by_cases hbl : b < l.length
     ·have d8 : decide (b < (l.length : Int)) = true := decide_eq_true hbl
      obtain ⟨ad2, hA, hxi⟩ := Kd.at_int (Kd.C_below HC.out (pw_below_drewN (Below.refl _ _) m1)) b hx0 hbl
      cases hA
      by_cases hq : rd l b = 34
      ·have f34 : (rd l b != 34) = false := by simp [hq]
       have HQ := Aside0.mk hq
       clear hq hb0
       go_wp2_with fail
       go_meet
       case rel => exact ⟨b, rfl, ⟨b1, b2, .inr (.inl HQ.out)⟩, HTB, by first | exact ⟨_, rfl⟩ | (repeat (first | exact Drawn0.refl _ | apply Drawn0.step))⟩
      ·have f34 : (rd l b != 34) = true := bne_iff_ne.mpr hq
       by_cases hq2 : rd l b = 92
       ·have f92 : (rd l b != 92) = false := by simp [hq2]
        have HQ := Aside0.mk hq2
        clear hq hq2 hb0
        go_wp2_with fail
        go_meet
        case rel => exact ⟨b, rfl, ⟨b1, b2, .inr (.inr HQ.out)⟩, HTB, by first | exact ⟨_, rfl⟩ | (repeat (first | exact Drawn0.refl _ | apply Drawn0.step))⟩
       ·have f92 : (rd l b != 92) = true := bne_iff_ne.mpr hq2
        have h1 := HH.out.byt _ (rd_mem (l := l) hx0 hbl)
        have HTB2 := Aside0.mk (ta_other HTB.out HT.out h0 (by omega) (by have := HLEN.out; omega) (by rw [rdL hx0 hbl]; exact hq) (by rw [rdL hx0 hbl]; exact hq2) (by rw [rdL hx0 hbl]; omega) (fun h => by cases h.1) (fun h => by cases h.1))
        clear hq hq2 h1 hb0
        go_wp2_with fail
        go_roundg g1
        case measure => omega
        case rel => exact ⟨b + 1, by first | rfl | rw [e1], ⟨by omega, by omega, by omega⟩, HTB2, by first | exact ⟨_, rfl⟩ | (repeat (first | exact Drawn0.refl _ | apply Drawn0.step))⟩
     ·have d8 : decide (b < (l.length : Int)) = false := decide_eq_false hbl
      have HBL : Aside0 (b = l.length) := ⟨by omega⟩
      clear hbl hb0
      go_wp2_with fail
      go_meet
      case rel => exact ⟨b, rfl, ⟨b1, b2, .inl HBL.out⟩, HTB, by first | exact ⟨_, rfl⟩ | (repeat (first | exact Drawn0.refl _ | apply Drawn0.step))⟩
   case rest =>
    clear hb0 HB0 HTB0
    obtain ⟨b, rfl, HB, HTB, ⟨m1, rfl⟩⟩ := hcut
    obtain ⟨b1, b2, b3⟩ := HB.out
    have hx0 : 0 ≤ b := by omega
    have e1 : wrap64 (b + 1) = b + 1 := by unfold wrap64; omega
    by_cases hbl : b < l.length
    ·have d8 : decide ((l.length : Int) ≤ b) = false := decide_eq_false (by omega)
     obtain ⟨ad2, hA, hxi⟩ := Kd.at_int (Kd.C_below HC.out (pw_below_drewN (Below.refl _ _) m1)) b hx0 hbl
     cases hA
     by_cases hq : rd l b = 34
     ·have f34 : (rd l b == 34) = true := beq_iff_eq.mpr hq
      have HRES := Aside0.mk (ta_quote HTB.out HT.out h0 (by omega) (by have := HLEN.out; omega) (by rw [rdL hx0 hbl]; exact hq))
      clear hq b1 b2 b3 y1 y2 y3
      go_wp2_with fail
      go_ret
      exact ⟨⟨b + 1, by first | rfl | simp [e1], .inr ⟨_, HRES.out⟩⟩, by first | exact ⟨_, rfl⟩ | (repeat (first | exact Drawn0.refl _ | apply Drawn0.step))⟩
     ·have f34 : (rd l b == 34) = false := beq_eq_false_iff_ne.mpr hq
      have h92 : rd l b = 92 := by omega
      have HCALL : Aside0 (∀ n, Calls Tryd.prog 71 #[.slice (some ad) l.length c, .int .i64 (b + 1)] (w.drewN n) fun e w' => e = .returned (.int .i64 (escI (l ++ [0]) (b + 1))) ∧ Drawn0 (w.drewN n) w') := ⟨fun n => by
       have := esc_call_l (y := b + 1) (Kd.C_below HC.out (pw_below_drewN (Below.refl _ _) n)) hcap hsm (by omega) (by omega)
       rw [escL_L HT.out (by omega) (by omega)] at this
       exact this⟩
      cases hd : escF (l ++ [0]) (b + 1) with
      | none =>
       have he : escI (l ++ [0]) (b + 1) = -1 := by unfold escI; rw [hd]
       rw [he] at HCALL
       have HNO := Aside0.mk (ta_noesc HTB.out HT.out h0 (by omega) (by have := HLEN.out; omega) (by rw [rdL hx0 hbl]; exact h92) hd)
       clear hd he hq h92 b3
       go_wp2_with fail
       with_reducible refine (HCALL.out _).mono ?_
       rintro e w1 ⟨rfl, ⟨m2, rfl⟩⟩
       go_wp2_with fail
       go_ret
       exact ⟨⟨-1, rfl, .inl ⟨rfl, HNO.out⟩⟩, by first | exact ⟨_, rfl⟩ | (repeat (first | exact Drawn0.refl _ | apply Drawn0.step))⟩
      | some d =>
       have hg := escF_gt HT.out (x := b + 1) (by omega) (by have := HLEN.out; omega) hd
       have HTA2 := Aside0.mk (ta_esc HTB.out HT.out h0 (by omega) (by have := HLEN.out; omega) (by rw [rdL hx0 hbl]; exact h92) hd ⟨by omega, hg.2⟩)
       have he : escI (l ++ [0]) (b + 1) = d := by unfold escI; rw [hd]
       rw [he] at HCALL
       have hd0 : ¬ d < 0 := by omega
       have HD : Aside0 (b + 1 < d ∧ d ≤ l.length) := ⟨hg.1, by have := HLEN.out; omega⟩
       clear hd he hq h92 b3 hg
       go_wp2_with fail
       with_reducible refine (HCALL.out _).mono ?_
       rintro e w1 ⟨rfl, ⟨m2, rfl⟩⟩
       go_wp2_with fail
       go_roundg g0
       case measure => omega
       case rel => exact ⟨d, rfl, ⟨by have := HD.out; omega, by have := HD.out; omega, by have := HD.out; omega⟩, HTA2, by first | exact ⟨_, rfl⟩ | (repeat (first | exact Drawn0.refl _ | apply Drawn0.step))⟩
    ·have d8 : decide ((l.length : Int) ≤ b) = true := decide_eq_true (by omega)
     have HNO := Aside0.mk (ta_low (y := b) HTB.out HT.out h0 (by omega) (by have := HLEN.out; omega) (by rw [show b = ((l ++ [(0 : Int)]).length : Int) - 1 by have := HLEN.out; omega, HT.out.last]; omega))
     clear hbl b1 b2 b3 y1 y2 y3
     go_wp2_with fail
     go_ret
     exact ⟨⟨-1, rfl, .inl ⟨rfl, HNO.out⟩⟩, by first | exact ⟨_, rfl⟩ | (repeat (first | exact Drawn0.refl _ | apply Drawn0.step))⟩
end
end Go.Proofs.YtbikiibpjdiaaaaDoor.Err
/- The walk over compact JSON: where a number ends. -/
namespace Go.Proofs.YtbikiibpjdiaaaaDoor.Err
open Go.RowKit Go.Proofs.YtbikiibpjdiaaaaDoorW.PrintWords Go.Proofs.YtbikiibpjdiaaaaDoorW.PrintLast Go.Proofs.YtbikiibpjdiaaaaDoorW.PrintMore Go.Proofs.YtbikiibpjdiaaaaDoor.Dig Go.Proofs.YtbikiibpjdiaaaaDoor.Tab
set_option linter.unusedVariables false
/-- Where a number ends that stands at x; -1: there is none. -/
def NE (l : List Int) (x r : Int) : Prop := (r = -1 ∧ fnum (l ++ [0]) x = none) ∨ ∃ T, fnum (l ++ [0]) x = some (r, T)
section
variable {w w' : World} {A : Option Addr} {ad : Addr} {c : Nat} {l : List Int} {x y z : Int}
theorem restL (hL : Txt (l ++ [0])) (h0 : 0 ≤ x) (hx : x ≤ l.length) : ((rest (l ++ [0]) x).length : Int) = l.length - x := by
 rw [rest_len h0 (by rw [List.length_append, List.length_singleton]; omega), List.length_append, List.length_singleton]; omega
theorem restR (hL : Txt (l ++ [0])) (h0 : 0 ≤ x) (hxy : x ≤ y) (hy : y < l.length) : rd (rest (l ++ [0]) x) ((y - x).toNat : Nat) = rd l y := by
 have hr := restL hL h0 (by omega)
 rw [rest_rd h0 (by rw [List.length_append, List.length_singleton]; omega) _ (by omega), show x + (((y - x).toNat : Nat) : Int) = y by omega, rdL (by omega) hy]
theorem num_in (hL : Txt (l ++ [0])) (h0 : 0 ≤ x) (hxy : x ≤ y) (hy : y < l.length) (hd : 48 ≤ rd l y ∧ rd l y ≤ 57) : dEnd (rest (l ++ [0]) x) (y - x).toNat = dEnd (rest (l ++ [0]) x) (y + 1 - x).toNat := by
 have hr := restL hL h0 (by omega)
 rw [dEnd_step _ _ (by omega), restR hL h0 hxy hy, if_pos ((isD_iff _).2 hd), show (y + 1 - x).toNat = (y - x).toNat + 1 by omega]
theorem num_out (hL : Txt (l ++ [0])) (h0 : 0 ≤ x) (hxy : x ≤ y) (hy : y ≤ l.length) (hd : y < l.length → ¬ (48 ≤ rd l y ∧ rd l y ≤ 57)) : dEnd (rest (l ++ [0]) x) (y - x).toNat = (y - x).toNat := by
 have hr := restL hL h0 (by omega)
 by_cases h : y < l.length
 ·rw [dEnd_step _ _ (by omega), restR hL h0 hxy h, if_neg (fun e => hd h ((isD_iff _).1 e))]
 ·exact dEnd_end _ _ (by omega)
theorem num_gt (hL : Txt (l ++ [0])) (h0 : 0 ≤ x) (hxy : x ≤ y) (hy : y < l.length) (hd : 48 ≤ rd l y ∧ rd l y ≤ 57) : dEnd (rest (l ++ [0]) x) (y - x).toNat ≠ (y - x).toNat := by
 have hr := restL hL h0 (by omega)
 have := dEnd_gt (rest (l ++ [0]) x) (y - x).toNat (by omega) (by rw [restR hL h0 hxy hy]; exact (isD_iff _).2 hd)
 omega
theorem num_sign (hL : Txt (l ++ [0])) (h0 : 0 ≤ x) (hx : x < l.length) : scanNum (rest (l ++ [0]) x) = r1 (rest (l ++ [0]) x) (if rd l x = 45 then x + 1 - x else x - x).toNat := by
 have hr := restL hL h0 (by omega)
 have h := restR hL h0 (Int.le_refl x) hx
 rw [show (x - x).toNat = 0 by omega] at h
 unfold scanNum
 rw [show (((0 : Nat) : Nat) : Int) = 0 from rfl] at h
 by_cases hc : rd l x = 45
 ·rw [if_pos ⟨by omega, by rw [h]; exact hc⟩, if_pos hc, show (x + 1 - x).toNat = 1 by omega]
 ·rw [if_neg (fun e => hc (by rw [← h]; exact e.2)), if_neg hc, show (x - x).toNat = 0 by omega]
theorem num_int (hL : Txt (l ++ [0])) (h0 : 0 ≤ x) (hxy : x ≤ y) (hy : y < l.length) (hd : 48 ≤ rd l y ∧ rd l y ≤ 57) : r1 (rest (l ++ [0]) x) (y - x).toNat = if rd l y = 48 then r2 (rest (l ++ [0]) x) (y + 1 - x).toNat else r2 (rest (l ++ [0]) x) (dEnd (rest (l ++ [0]) x) (y - x).toNat) := by
 unfold r1
 rw [if_neg (num_gt hL h0 hxy hy hd), restR hL h0 hxy hy, show (y + 1 - x).toNat = (y - x).toNat + 1 by omega]
theorem num_dot (hL : Txt (l ++ [0])) (h0 : 0 ≤ x) (hxy : x ≤ y) (hy : y + 1 < l.length) (hc : rd l y = 46) (hd : 48 ≤ rd l (y + 1) ∧ rd l (y + 1) ≤ 57) : r2 (rest (l ++ [0]) x) (y - x).toNat = r4 (rest (l ++ [0]) x) (dEnd (rest (l ++ [0]) x) (y + 1 - x).toNat) := by
 have hr := restL hL h0 (by omega)
 have hg := num_gt hL h0 (show x ≤ y + 1 by omega) hy hd
 unfold r2 r3
 rw [restR hL h0 hxy (by omega), decide_eq_true ⟨by omega, hc⟩, if_pos rfl, show (y - x).toNat + 1 = (y + 1 - x).toNat by omega, if_neg hg]
theorem num_nodot (hL : Txt (l ++ [0])) (h0 : 0 ≤ x) (hxy : x ≤ y) (hy : y ≤ l.length) (hc : y < l.length → rd l y ≠ 46) : r2 (rest (l ++ [0]) x) (y - x).toNat = r4 (rest (l ++ [0]) x) (y - x).toNat := by
 have hr := restL hL h0 (by omega)
 unfold r2 r3
 rw [decide_eq_false (fun e => ?_)]
 ·rfl
 ·have h : y < l.length := by omega
  exact hc h (by rw [← restR hL h0 hxy h]; exact e.2)
theorem num_noexp (hL : Txt (l ++ [0])) (h0 : 0 ≤ x) (hxy : x ≤ y) (hy : y ≤ l.length) (hc : y < l.length → rd l y ≠ 101 ∧ rd l y ≠ 69) : r4 (rest (l ++ [0]) x) (y - x).toNat = ((y - x).toNat, 0) := by
 have hr := restL hL h0 (by omega)
 unfold r4 r5
 rw [decide_eq_false (fun e => ?_)]
 ·rfl
 ·have h : y < l.length := by omega
  have h2 := e.2
  rw [restR hL h0 hxy h] at h2
  have := hc h
  omega
theorem num_exp (hL : Txt (l ++ [0])) (h0 : 0 ≤ x) (hxy : x ≤ y) (hy : y < l.length) (hc : rd l y = 101 ∨ rd l y = 69) (hz : z = if y + 1 < l.length ∧ (rd l (y + 1) = 43 ∨ rd l (y + 1) = 45) then y + 2 else y + 1) (hzl : z < l.length) (hd : 48 ≤ rd l z ∧ rd l z ≤ 57) :
  r4 (rest (l ++ [0]) x) (y - x).toNat = (dEnd (rest (l ++ [0]) x) (z - x).toNat, 0) := by
 have hr := restL hL h0 (by omega)
 have hzy : y + 1 ≤ z := by rw [hz]; split <;> omega
 have hg := num_gt hL h0 (show x ≤ z by omega) hzl hd
 have h6 : r6 (rest (l ++ [0]) x) (z - x).toNat = (dEnd (rest (l ++ [0]) x) (z - x).toNat, 0) := by unfold r6; rw [if_neg hg]
 unfold r4 r5
 rw [restR hL h0 hxy hy, decide_eq_true ⟨by omega, hc⟩, if_pos rfl]
 by_cases hs : y + 1 < l.length ∧ (rd l (y + 1) = 43 ∨ rd l (y + 1) = 45)
 ·rw [if_pos hs] at hz
  have hR := restR hL h0 (show x ≤ y + 1 by omega) hs.1
  rw [show (y + 1 - x).toNat = (y - x).toNat + 1 by omega] at hR
  rw [hR, if_pos ⟨by omega, hs.2⟩, ← h6, show (y - x).toNat + 2 = (z - x).toNat by omega]
 ·rw [if_neg hs] at hz
  rw [if_neg (fun e => hs ⟨by omega, by
   have hR := restR hL h0 (show x ≤ y + 1 by omega) (by omega)
   rw [show (y + 1 - x).toNat = (y - x).toNat + 1 by omega] at hR
   rw [← hR]; exact e.2⟩), ← h6, show (y - x).toNat + 1 = (z - x).toNat by omega]
theorem num_none {k m : Nat} (h : scanNum (rest (l ++ [0]) x) = (k, m + 1)) : fnum (l ++ [0]) x = none := by
 unfold fnum
 rw [h, if_neg (by simp)]
theorem num_r1no (hL : Txt (l ++ [0])) (h0 : 0 ≤ x) (hxy : x ≤ y) (hy : y ≤ l.length) (hd : y < l.length → ¬ (48 ≤ rd l y ∧ rd l y ≤ 57)) : r1 (rest (l ++ [0]) x) (y - x).toNat = ((y - x).toNat, 0 + 1) := by
 unfold r1
 rw [if_pos (num_out hL h0 hxy hy hd)]
theorem num_dotno (hL : Txt (l ++ [0])) (h0 : 0 ≤ x) (hxy : x ≤ y) (hy : y < l.length) (hc : rd l y = 46) (hd : y + 1 < l.length → ¬ (48 ≤ rd l (y + 1) ∧ rd l (y + 1) ≤ 57)) : r2 (rest (l ++ [0]) x) (y - x).toNat = ((y + 1 - x).toNat, 1 + 1) := by
 have hr := restL hL h0 (by omega)
 have hg := num_out hL h0 (show x ≤ y + 1 by omega) (by omega) hd
 unfold r2 r3
 rw [restR hL h0 hxy hy, decide_eq_true ⟨by omega, hc⟩, if_pos rfl, show (y - x).toNat + 1 = (y + 1 - x).toNat by omega, if_pos hg]
theorem num_expno (hL : Txt (l ++ [0])) (h0 : 0 ≤ x) (hxy : x ≤ y) (hy : y < l.length) (hc : rd l y = 101 ∨ rd l y = 69) (hz : z = if y + 1 < l.length ∧ (rd l (y + 1) = 43 ∨ rd l (y + 1) = 45) then y + 2 else y + 1) (hd : z < l.length → ¬ (48 ≤ rd l z ∧ rd l z ≤ 57)) :
  r4 (rest (l ++ [0]) x) (y - x).toNat = ((z - x).toNat, 2 + 1) := by
 have hr := restL hL h0 (by omega)
 have hzy : y + 1 ≤ z ∧ z ≤ l.length := by rw [hz]; split <;> omega
 have hg := num_out hL h0 (show x ≤ z by omega) hzy.2 hd
 have h6 : r6 (rest (l ++ [0]) x) (z - x).toNat = ((z - x).toNat, 2 + 1) := by unfold r6; rw [if_pos hg]
 unfold r4 r5
 rw [restR hL h0 hxy hy, decide_eq_true ⟨by omega, hc⟩, if_pos rfl]
 by_cases hs : y + 1 < l.length ∧ (rd l (y + 1) = 43 ∨ rd l (y + 1) = 45)
 ·rw [if_pos hs] at hz
  have hR := restR hL h0 (show x ≤ y + 1 by omega) hs.1
  rw [show (y + 1 - x).toNat = (y - x).toNat + 1 by omega] at hR
  rw [hR, if_pos ⟨by omega, hs.2⟩, ← h6, show (y - x).toNat + 2 = (z - x).toNat by omega]
 ·rw [if_neg hs] at hz
  rw [if_neg (fun e => hs ⟨by omega, by
   have hR := restR hL h0 (show x ≤ y + 1 by omega) (by omega)
   rw [show (y + 1 - x).toNat = (y - x).toNat + 1 by omega] at hR
   rw [← hR]; exact e.2⟩), ← h6, show (y - x).toNat + 1 = (z - x).toNat by omega]
theorem num_done (hxy : x ≤ y) (h : scanNum (rest (l ++ [0]) x) = ((y - x).toNat, 0)) : NE l x y := by
 refine .inr ⟨seg (l ++ [0]) x y, ?_⟩
 unfold fnum
 rw [h, if_pos rfl, show x + (((y - x).toNat : Nat) : Int) = y by omega]
set_option maxRecDepth 100000 in
set_option maxHeartbeats 8000000 in
theorem numberEnd (hC : Kd.C (Kd.int .u8) w A l.length l) (hcap : l.length ≤ c) (hH : High l) (h0 : 0 ≤ x) (hx : x < l.length) :
  Calls Tryd.prog 54 #[.slice A l.length c, .int .i64 x] w fun e w' => (∃ r, e = .returned (.int .i64 r) ∧ NE l x r) ∧ Drawn0 w w' := by
 have hsm := hH.len
 obtain ⟨ad, rfl, hx0⟩ := Kd.at_int hC x h0 hx
 have HL := Aside0.mk hH.txt
 have HC := Aside0.mk hC
 obtain ⟨S, hS⟩ : ∃ S, S = scanNum (rest (l ++ [0]) x) := ⟨_, rfl⟩
 have HS := Aside0.mk hS
 have e0 : wrap64 (x + 1) = x + 1 := by unfold wrap64; omega
 clear hC hH hS
 go_enter Tryd.func54, Tryd.ntmps54
 go_upto_if 12 with (fail)
 go_cut [1] from 7 to 182 (fun v1 wx => ∃ y : Int, v1 = .int .i64 y ∧ Aside0 (x ≤ y ∧ y < l.length ∧ S = r1 (rest (l ++ [0]) x) (y - x).toNat) ∧ Drawn0 w wx)
 case first =>
  as_aux_lemma =>
   have hsg := num_sign HL.out h0 hx
   by_cases hc : rd l x = 45
   ·rw [if_pos hc] at hsg
    have HSG := Aside0.mk (HS.out.trans hsg)
    have f45 : (rd l x == 45) = true := beq_iff_eq.mpr hc
    by_cases hn : x + 1 < l.length
    ·have d1 : decide ((l.length : Int) ≤ x + 1) = false := decide_eq_false (by omega)
     clear hsg hc
     go_wp2_with fail
     go_meet
     case rel => exact ⟨x + 1, by first | rfl | rw [e0], ⟨by omega, hn, HSG.out⟩, by first | exact ⟨_, rfl⟩ | (repeat (first | exact Drawn0.refl _ | apply Drawn0.step))⟩
    ·have d1 : decide ((l.length : Int) ≤ x + 1) = true := decide_eq_true (by omega)
     have HNO := Aside0.mk (num_none (HS.out.symm.trans (HSG.out.trans (num_r1no HL.out h0 (by omega) (by omega) (fun h => absurd h hn)))))
     clear hsg hc
     go_wp2_with fail
     go_ret
     exact ⟨⟨-1, rfl, .inl ⟨rfl, HNO.out⟩⟩, by first | exact ⟨_, rfl⟩ | (repeat (first | exact Drawn0.refl _ | apply Drawn0.step))⟩
   ·rw [if_neg hc] at hsg
    have HSG := Aside0.mk (HS.out.trans hsg)
    have f45 : (rd l x == 45) = false := beq_eq_false_iff_ne.mpr hc
    clear hsg hc
    go_wp2_with fail
    go_meet
    case rel => exact ⟨x, rfl, ⟨by omega, hx, HSG.out⟩, by first | exact ⟨_, rfl⟩ | (repeat (first | exact Drawn0.refl _ | apply Drawn0.step))⟩
 case rest =>
  obtain ⟨a, rfl, HA, ⟨m0, rfl⟩⟩ := hcut
  obtain ⟨a1, a2, a3⟩ := HA.out
  have ha0 : 0 ≤ a := by omega
  have ea : wrap64 (a + 1) = a + 1 := by unfold wrap64; omega
  clear a3 hx0
  go_upto_block 0 with (fail)
  go_cut [1] from 7 to 182 (fun v1 wx => ∃ y : Int, v1 = .int .i64 y ∧ Aside0 (x ≤ y ∧ y ≤ l.length ∧ S = r2 (rest (l ++ [0]) x) (y - x).toNat) ∧ Drawn0 w wx)
  case first =>
   as_aux_lemma =>
    obtain ⟨ad2, hA, hxi⟩ := Kd.at_int (Kd.C_below HC.out (pw_below_drewN (Below.refl _ _) m0)) a ha0 a2
    cases hA
    by_cases h48 : rd l a = 48
    ·have HN : Aside0 (S = r2 (rest (l ++ [0]) x) (a + 1 - x).toNat) := ⟨by rw [HA.out.2.2, num_int HL.out h0 a1 a2 (by omega), if_pos h48]⟩
     have f48 : (rd l a == 48) = true := beq_iff_eq.mpr h48
     clear h48
     go_wp2_with fail
     go_meet
     case rel => exact ⟨a + 1, by first | rfl | rw [ea], ⟨by omega, by omega, HN.out⟩, by first | exact ⟨_, rfl⟩ | (repeat (first | exact Drawn0.refl _ | apply Drawn0.step))⟩
    ·have f48 : (rd l a == 48) = false := beq_eq_false_iff_ne.mpr h48
     by_cases hd : 49 ≤ rd l a ∧ rd l a ≤ 57
     ·have c1 : decide (49 ≤ rd l a) = true := decide_eq_true hd.1
      have c2 : decide (rd l a ≤ 57) = true := decide_eq_true hd.2
      obtain ⟨DD, hDD⟩ : ∃ DD, DD = dEnd (rest (l ++ [0]) x) (a - x).toNat := ⟨_, rfl⟩
      have HNN : Aside0 (S = r2 (rest (l ++ [0]) x) DD) := ⟨by rw [HA.out.2.2, num_int HL.out h0 a1 a2 (by omega), if_neg h48, hDD]⟩
      have HD : Aside0 (dEnd (rest (l ++ [0]) x) (a + 1 - x).toNat = DD) := ⟨by rw [hDD, num_in HL.out h0 a1 a2 (by omega)]⟩
      clear hd h48 hDD
      go_wp2_with fail
      go_loopg [1] (l.length + 1) (fun kq v1 w' => ∃ y : Int, v1 = .int .i64 y ∧ Aside0 (a + 1 ≤ y ∧ y ≤ l.length ∧ (l.length : Int) + 1 ≤ y + kq ∧ dEnd (rest (l ++ [0]) x) (y - x).toNat = DD) ∧ Drawn0 w w')
      case atStart => exact ⟨a + 1, by first | rfl | rw [ea], ⟨by omega, by omega, by omega, HD.out⟩, by first | exact ⟨_, rfl⟩ | (repeat (first | exact Drawn0.refl _ | apply Drawn0.step))⟩
      case round =>
       as_aux_lemma =>
        obtain ⟨y, rfl, HY, ⟨m1, rfl⟩⟩ := hrel
        obtain ⟨y1, y2, y3, y4⟩ := HY.out
        obtain _ | g1 := gk
        ·exfalso; omega
        have hy0 : 0 ≤ y := by omega
        have e1 : wrap64 (y + 1) = y + 1 := by unfold wrap64; omega
        have HY4 := Aside0.mk y4
        by_cases hyl : y < l.length
        ·have d8 : decide (y < (l.length : Int)) = true := decide_eq_true hyl
         obtain ⟨ad2, hA, hxi⟩ := Kd.at_int (Kd.C_below HC.out (pw_below_drewN (Below.refl _ _) m1)) y hy0 hyl
         cases hA
         by_cases hd : 48 ≤ rd l y ∧ rd l y ≤ 57
         ·have c1 : decide (48 ≤ rd l y) = true := decide_eq_true hd.1
          have c2 : decide (rd l y ≤ 57) = true := decide_eq_true hd.2
          have HN := Aside0.mk ((num_in HL.out h0 (by omega) hyl hd).symm.trans y4)
          clear hd y4
          go_wp2_with fail
          go_roundg g1
          case measure => omega
          case rel => exact ⟨y + 1, by first | rfl | rw [e1], ⟨by omega, by omega, by omega, HN.out⟩, by first | exact ⟨_, rfl⟩ | (repeat (first | exact Drawn0.refl _ | apply Drawn0.step))⟩
         ·have HN := Aside0.mk (num_out HL.out h0 (by omega) y2 (fun _ => hd))
          by_cases h48 : 48 ≤ rd l y
          ·have c1 : decide (48 ≤ rd l y) = true := decide_eq_true h48
           have c2 : decide (rd l y ≤ 57) = false := decide_eq_false (by omega)
           clear hd y4 h48
           go_wp2_with fail
           go_meet
           case rel => exact ⟨y, rfl, ⟨by omega, y2, by rw [HNN.out, ← HY4.out, HN.out]⟩, by first | exact ⟨_, rfl⟩ | (repeat (first | exact Drawn0.refl _ | apply Drawn0.step))⟩
          ·have c1 : decide (48 ≤ rd l y) = false := decide_eq_false h48
           clear hd y4 h48
           go_wp2_with fail
           go_meet
           case rel => exact ⟨y, rfl, ⟨by omega, y2, by rw [HNN.out, ← HY4.out, HN.out]⟩, by first | exact ⟨_, rfl⟩ | (repeat (first | exact Drawn0.refl _ | apply Drawn0.step))⟩
        ·have d8 : decide (y < (l.length : Int)) = false := decide_eq_false hyl
         have HN := Aside0.mk (num_out HL.out h0 (by omega) y2 (fun h => absurd h hyl))
         clear hyl y4
         go_wp2_with fail
         go_meet
         case rel => exact ⟨y, rfl, ⟨by omega, y2, by rw [HNN.out, ← HY4.out, HN.out]⟩, by first | exact ⟨_, rfl⟩ | (repeat (first | exact Drawn0.refl _ | apply Drawn0.step))⟩
     ·have HD := Aside0.mk hd
      have HNO := Aside0.mk (num_none (HS.out.symm.trans (HA.out.2.2.trans (num_r1no HL.out h0 a1 (by omega) (fun _ hh => by omega)))))
      by_cases h49 : 49 ≤ rd l a
      ·have c1 : decide (49 ≤ rd l a) = true := decide_eq_true h49
       have c2 : decide (rd l a ≤ 57) = false := decide_eq_false (by omega)
       clear hd h48 h49
       go_wp2_with fail
       go_ret
       exact ⟨⟨-1, rfl, .inl ⟨rfl, HNO.out⟩⟩, by first | exact ⟨_, rfl⟩ | (repeat (first | exact Drawn0.refl _ | apply Drawn0.step))⟩
      ·have c1 : decide (49 ≤ rd l a) = false := decide_eq_false h49
       clear hd h48 h49
       go_wp2_with fail
       go_ret
       exact ⟨⟨-1, rfl, .inl ⟨rfl, HNO.out⟩⟩, by first | exact ⟨_, rfl⟩ | (repeat (first | exact Drawn0.refl _ | apply Drawn0.step))⟩
  case rest =>
   clear HA a1 a2 ha0 ea
   obtain ⟨a, rfl, HA, ⟨m0, rfl⟩⟩ := hcut
   obtain ⟨a1, a2, a3⟩ := HA.out
   have ha0 : 0 ≤ a := by omega
   have ea : wrap64 (a + 1) = a + 1 := by unfold wrap64; omega
   clear a3
   go_upto_region 13 with (fail)
   go_cut [69] from 7 to 182 (fun vb wx => ∃ bb : Bool, vb = .bool bb ∧ Aside0 (bb = decide (a < (l.length : Int) ∧ (rd l (a) = 46))) ∧ Drawn0 w wx)
   case first =>
    as_aux_lemma =>
     by_cases hal : a < (l.length : Int)
     ·obtain ⟨ad2, hA, hxi⟩ := Kd.at_int (Kd.C_below HC.out (pw_below_drewN (Below.refl _ _) m0)) a (by omega) hal
      cases hA
      have d1 : decide (a < (l.length : Int)) = true := decide_eq_true hal
      by_cases h46 : rd l (a) = 46
      ·have hbb : Aside0 (true = decide (a < (l.length : Int) ∧ (rd l (a) = 46))) := ⟨(decide_eq_true ⟨hal, by omega⟩).symm⟩
       have f46 : (rd l (a) == 46) = true := beq_iff_eq.mpr h46
       clear h46
       go_wp2_with fail
       go_meet
       case rel => exact ⟨true, rfl, hbb, by first | exact ⟨_, rfl⟩ | (repeat (first | exact Drawn0.refl _ | apply Drawn0.step))⟩
      ·have f46 : (rd l (a) == 46) = false := beq_eq_false_iff_ne.mpr h46
       have hbb : Aside0 (false = decide (a < (l.length : Int) ∧ (rd l (a) = 46))) := ⟨(decide_eq_false (by omega)).symm⟩
       clear h46
       go_wp2_with fail
       go_meet
       case rel => exact ⟨false, rfl, hbb, by first | exact ⟨_, rfl⟩ | (repeat (first | exact Drawn0.refl _ | apply Drawn0.step))⟩
     ·have d1 : decide (a < (l.length : Int)) = false := decide_eq_false hal
      have hbb : Aside0 (false = decide (a < (l.length : Int) ∧ (rd l (a) = 46))) := ⟨(decide_eq_false (by omega)).symm⟩
      clear hal
      go_wp2_with fail
      go_meet
      case rel => exact ⟨false, rfl, hbb, by first | exact ⟨_, rfl⟩ | (repeat (first | exact Drawn0.refl _ | apply Drawn0.step))⟩
   case rest =>
    obtain ⟨bb, rfl, HBB, ⟨m0, rfl⟩⟩ := hcut
    go_upto_if 69 with (fail)
    go_cut [1] from 7 to 182 (fun v1 wx => ∃ y : Int, v1 = .int .i64 y ∧ Aside0 (x ≤ y ∧ y ≤ l.length ∧ S = r4 (rest (l ++ [0]) x) (y - x).toNat) ∧ Drawn0 w wx)
    case first =>
     as_aux_lemma =>
      obtain _ | _ := bb
      ·have HS4 : Aside0 (S = r4 (rest (l ++ [0]) x) (a - x).toNat) := ⟨by rw [HA.out.2.2, num_nodot HL.out h0 a1 a2 (fun h e => by have := of_decide_eq_false HBB.out.symm; omega)]⟩
       go_wp2_with fail
       go_meet
       case rel => exact ⟨a, rfl, ⟨a1, a2, HS4.out⟩, by first | exact ⟨_, rfl⟩ | (repeat (first | exact Drawn0.refl _ | apply Drawn0.step))⟩
      ·have hdot := of_decide_eq_true HBB.out.symm
       have hal := hdot.1
       have h46 := Aside0.mk hdot.2
       clear hdot
       by_cases hn : (a + 1) < (l.length : Int)
       ·have d1 : decide ((l.length : Int) ≤ (a + 1)) = false := decide_eq_false (by omega)
        obtain ⟨ad2, hA, hxi⟩ := Kd.at_int (Kd.C_below HC.out (pw_below_drewN (Below.refl _ _) m0)) (a + 1) (by omega) hn
        cases hA
        by_cases hd : 48 ≤ rd l ((a + 1)) ∧ rd l ((a + 1)) ≤ 57
        ·have c1 : decide (rd l ((a + 1)) < 48) = false := decide_eq_false (by omega)
         have c2 : decide (57 < rd l ((a + 1))) = false := decide_eq_false (by omega)
         obtain ⟨DD, hDD⟩ : ∃ DD, DD = dEnd (rest (l ++ [0]) x) ((a + 1) - x).toNat := ⟨_, rfl⟩
         have HNN : Aside0 (S = r4 (rest (l ++ [0]) x) DD) := ⟨by rw [HA.out.2.2, num_dot HL.out h0 a1 hn h46.out hd, hDD]⟩
         have HD : Aside0 (dEnd (rest (l ++ [0]) x) ((a + 1) - x).toNat = DD) := ⟨hDD.symm⟩
         clear hd hDD
         go_wp2_with fail
         go_loopg [1] (l.length + 1) (fun kq v1 w' => ∃ y : Int, v1 = .int .i64 y ∧ Aside0 ((a + 1) ≤ y ∧ y ≤ l.length ∧ (l.length : Int) + 1 ≤ y + kq ∧ dEnd (rest (l ++ [0]) x) (y - x).toNat = DD) ∧ Drawn0 w w')
         case atStart => exact ⟨(a + 1), by first | rfl | rw [ea], ⟨by omega, by omega, by omega, HD.out⟩, by first | exact ⟨_, rfl⟩ | (repeat (first | exact Drawn0.refl _ | apply Drawn0.step))⟩
         case round =>
          as_aux_lemma =>
           obtain ⟨y, rfl, HY, ⟨m1, rfl⟩⟩ := hrel
           obtain ⟨y1, y2, y3, y4⟩ := HY.out
           obtain _ | g1 := gk
           ·exfalso; omega
           have hy0 : 0 ≤ y := by omega
           have e1 : wrap64 (y + 1) = y + 1 := by unfold wrap64; omega
           have HY4 := Aside0.mk y4
           by_cases hyl : y < l.length
           ·have d8 : decide (y < (l.length : Int)) = true := decide_eq_true hyl
            obtain ⟨ad2, hA, hxi⟩ := Kd.at_int (Kd.C_below HC.out (pw_below_drewN (Below.refl _ _) m1)) y hy0 hyl
            cases hA
            by_cases hd : 48 ≤ rd l y ∧ rd l y ≤ 57
            ·have c1 : decide (48 ≤ rd l y) = true := decide_eq_true hd.1
             have c2 : decide (rd l y ≤ 57) = true := decide_eq_true hd.2
             have HN := Aside0.mk ((num_in HL.out h0 (by omega) hyl hd).symm.trans y4)
             clear hd y4
             go_wp2_with fail
             go_roundg g1
             case measure => omega
             case rel => exact ⟨y + 1, by first | rfl | rw [e1], ⟨by omega, by omega, by omega, HN.out⟩, by first | exact ⟨_, rfl⟩ | (repeat (first | exact Drawn0.refl _ | apply Drawn0.step))⟩
            ·have HN := Aside0.mk (num_out HL.out h0 (by omega) y2 (fun _ => hd))
             by_cases h48 : 48 ≤ rd l y
             ·have c1 : decide (48 ≤ rd l y) = true := decide_eq_true h48
              have c2 : decide (rd l y ≤ 57) = false := decide_eq_false (by omega)
              clear hd y4 h48
              go_wp2_with fail
              go_meet
              case rel => exact ⟨y, rfl, ⟨by omega, y2, by rw [HNN.out, ← HY4.out, HN.out]⟩, by first | exact ⟨_, rfl⟩ | (repeat (first | exact Drawn0.refl _ | apply Drawn0.step))⟩
             ·have c1 : decide (48 ≤ rd l y) = false := decide_eq_false h48
              clear hd y4 h48
              go_wp2_with fail
              go_meet
              case rel => exact ⟨y, rfl, ⟨by omega, y2, by rw [HNN.out, ← HY4.out, HN.out]⟩, by first | exact ⟨_, rfl⟩ | (repeat (first | exact Drawn0.refl _ | apply Drawn0.step))⟩
           ·have d8 : decide (y < (l.length : Int)) = false := decide_eq_false hyl
            have HN := Aside0.mk (num_out HL.out h0 (by omega) y2 (fun h => absurd h hyl))
            clear hyl y4
            go_wp2_with fail
            go_meet
            case rel => exact ⟨y, rfl, ⟨by omega, y2, by rw [HNN.out, ← HY4.out, HN.out]⟩, by first | exact ⟨_, rfl⟩ | (repeat (first | exact Drawn0.refl _ | apply Drawn0.step))⟩
        ·have HNO := Aside0.mk (num_none (HS.out.symm.trans (HA.out.2.2.trans (num_dotno HL.out h0 a1 hal h46.out (fun _ => hd)))))
         by_cases h48 : rd l ((a + 1)) < 48
         ·have c1 : decide (rd l ((a + 1)) < 48) = true := decide_eq_true h48
          clear hd h48
          go_wp2_with fail
          go_ret
          exact ⟨⟨-1, rfl, .inl ⟨rfl, HNO.out⟩⟩, by first | exact ⟨_, rfl⟩ | (repeat (first | exact Drawn0.refl _ | apply Drawn0.step))⟩
         ·have c1 : decide (rd l ((a + 1)) < 48) = false := decide_eq_false h48
          have c2 : decide (57 < rd l ((a + 1))) = true := decide_eq_true (by omega)
          clear hd h48
          go_wp2_with fail
          go_ret
          exact ⟨⟨-1, rfl, .inl ⟨rfl, HNO.out⟩⟩, by first | exact ⟨_, rfl⟩ | (repeat (first | exact Drawn0.refl _ | apply Drawn0.step))⟩
       ·have d1 : decide ((l.length : Int) ≤ (a + 1)) = true := decide_eq_true (by omega)
        have HNO := Aside0.mk (num_none (HS.out.symm.trans (HA.out.2.2.trans (num_dotno HL.out h0 a1 hal h46.out (fun h => absurd h hn)))))
        clear hn
        go_wp2_with fail
        go_ret
        exact ⟨⟨-1, rfl, .inl ⟨rfl, HNO.out⟩⟩, by first | exact ⟨_, rfl⟩ | (repeat (first | exact Drawn0.refl _ | apply Drawn0.step))⟩
    case rest =>
     clear HA a1 a2 ha0 ea HBB
     obtain ⟨a, rfl, HA, ⟨m0, rfl⟩⟩ := hcut
     obtain ⟨a1, a2, a3⟩ := HA.out
     have ha0 : 0 ≤ a := by omega
     have ea : wrap64 (a + 1) = a + 1 := by unfold wrap64; omega
     have ea2 : wrap64 (a + 1 + 1) = a + 1 + 1 := by unfold wrap64; omega
     clear a3
     go_upto_region 19 with (fail)
     go_cut [124] from 7 to 182 (fun vb wx => ∃ bb : Bool, vb = .bool bb ∧ Aside0 (bb = decide (a < (l.length : Int) ∧ (rd l (a) = 101 ∨ rd l (a) = 69))) ∧ Drawn0 w wx)
     case first =>
      as_aux_lemma =>
       by_cases hal : a < (l.length : Int)
       ·obtain ⟨ad2, hA, hxi⟩ := Kd.at_int (Kd.C_below HC.out (pw_below_drewN (Below.refl _ _) m0)) a (by omega) hal
        cases hA
        have d1 : decide (a < (l.length : Int)) = true := decide_eq_true hal
        by_cases h101 : rd l (a) = 101
        ·have hbb : Aside0 (true = decide (a < (l.length : Int) ∧ (rd l (a) = 101 ∨ rd l (a) = 69))) := ⟨(decide_eq_true ⟨hal, by omega⟩).symm⟩
         have f101 : (rd l (a) == 101) = true := beq_iff_eq.mpr h101
         clear h101
         go_wp2_with fail
         go_meet
         case rel => exact ⟨true, rfl, hbb, by first | exact ⟨_, rfl⟩ | (repeat (first | exact Drawn0.refl _ | apply Drawn0.step))⟩
        ·have f101 : (rd l (a) == 101) = false := beq_eq_false_iff_ne.mpr h101
         by_cases h69 : rd l (a) = 69
         ·have hbb : Aside0 (true = decide (a < (l.length : Int) ∧ (rd l (a) = 101 ∨ rd l (a) = 69))) := ⟨(decide_eq_true ⟨hal, by omega⟩).symm⟩
          have f69 : (rd l (a) == 69) = true := beq_iff_eq.mpr h69
          clear h69
          go_wp2_with fail
          go_meet
          case rel => exact ⟨true, rfl, hbb, by first | exact ⟨_, rfl⟩ | (repeat (first | exact Drawn0.refl _ | apply Drawn0.step))⟩
         ·have f69 : (rd l (a) == 69) = false := beq_eq_false_iff_ne.mpr h69
          have hbb : Aside0 (false = decide (a < (l.length : Int) ∧ (rd l (a) = 101 ∨ rd l (a) = 69))) := ⟨(decide_eq_false (by omega)).symm⟩
          clear h101
          clear h69
          go_wp2_with fail
          go_meet
          case rel => exact ⟨false, rfl, hbb, by first | exact ⟨_, rfl⟩ | (repeat (first | exact Drawn0.refl _ | apply Drawn0.step))⟩
       ·have d1 : decide (a < (l.length : Int)) = false := decide_eq_false hal
        have hbb : Aside0 (false = decide (a < (l.length : Int) ∧ (rd l (a) = 101 ∨ rd l (a) = 69))) := ⟨(decide_eq_false (by omega)).symm⟩
        clear hal
        go_wp2_with fail
        go_meet
        case rel => exact ⟨false, rfl, hbb, by first | exact ⟨_, rfl⟩ | (repeat (first | exact Drawn0.refl _ | apply Drawn0.step))⟩
     case rest =>
      obtain ⟨bb, rfl, HBB, ⟨m0, rfl⟩⟩ := hcut
      go_upto_if 124 with (fail)
      go_cut [1] from 7 to 182 (fun v1 wx => ∃ y : Int, v1 = .int .i64 y ∧ Aside0 (x ≤ y ∧ y ≤ l.length ∧ S = ((y - x).toNat, 0)) ∧ Drawn0 w wx)
      case first =>
       as_aux_lemma =>
        obtain _ | _ := bb
        ·have HS4 : Aside0 (S = ((a - x).toNat, 0)) := ⟨by rw [HA.out.2.2, num_noexp HL.out h0 a1 a2 (fun h => by have := of_decide_eq_false HBB.out.symm; omega)]⟩
         go_wp2_with fail
         go_meet
         case rel => exact ⟨a, rfl, ⟨a1, a2, HS4.out⟩, by first | exact ⟨_, rfl⟩ | (repeat (first | exact Drawn0.refl _ | apply Drawn0.step))⟩
        ·have hexp := of_decide_eq_true HBB.out.symm
         have hal := hexp.1
         have HEXP := Aside0.mk hexp.2
         clear hexp
         go_upto_region 21 with (fail)
         go_cut [143] from 7 to 182 (fun vb wx => ∃ bb : Bool, vb = .bool bb ∧ Aside0 (bb = decide ((a + 1) < (l.length : Int) ∧ (rd l ((a + 1)) = 43 ∨ rd l ((a + 1)) = 45))) ∧ Drawn0 w wx)
         case first =>
          as_aux_lemma =>
           by_cases hal : (a + 1) < (l.length : Int)
           ·obtain ⟨ad2, hA, hxi⟩ := Kd.at_int (Kd.C_below HC.out (pw_below_drewN (Below.refl _ _) m0)) (a + 1) (by omega) hal
            cases hA
            have d1 : decide ((a + 1) < (l.length : Int)) = true := decide_eq_true hal
            by_cases h43 : rd l ((a + 1)) = 43
            ·have hbb : Aside0 (true = decide ((a + 1) < (l.length : Int) ∧ (rd l ((a + 1)) = 43 ∨ rd l ((a + 1)) = 45))) := ⟨(decide_eq_true ⟨hal, by omega⟩).symm⟩
             have f43 : (rd l ((a + 1)) == 43) = true := beq_iff_eq.mpr h43
             clear h43
             go_wp2_with fail
             go_meet
             case rel => exact ⟨true, rfl, hbb, by first | exact ⟨_, rfl⟩ | (repeat (first | exact Drawn0.refl _ | apply Drawn0.step))⟩
            ·have f43 : (rd l ((a + 1)) == 43) = false := beq_eq_false_iff_ne.mpr h43
             by_cases h45 : rd l ((a + 1)) = 45
             ·have hbb : Aside0 (true = decide ((a + 1) < (l.length : Int) ∧ (rd l ((a + 1)) = 43 ∨ rd l ((a + 1)) = 45))) := ⟨(decide_eq_true ⟨hal, by omega⟩).symm⟩
              have f45 : (rd l ((a + 1)) == 45) = true := beq_iff_eq.mpr h45
              clear h45
              go_wp2_with fail
              go_meet
              case rel => exact ⟨true, rfl, hbb, by first | exact ⟨_, rfl⟩ | (repeat (first | exact Drawn0.refl _ | apply Drawn0.step))⟩
             ·have f45 : (rd l ((a + 1)) == 45) = false := beq_eq_false_iff_ne.mpr h45
              have hbb : Aside0 (false = decide ((a + 1) < (l.length : Int) ∧ (rd l ((a + 1)) = 43 ∨ rd l ((a + 1)) = 45))) := ⟨(decide_eq_false (by omega)).symm⟩
              clear h43
              clear h45
              go_wp2_with fail
              go_meet
              case rel => exact ⟨false, rfl, hbb, by first | exact ⟨_, rfl⟩ | (repeat (first | exact Drawn0.refl _ | apply Drawn0.step))⟩
           ·have d1 : decide ((a + 1) < (l.length : Int)) = false := decide_eq_false hal
            have hbb : Aside0 (false = decide ((a + 1) < (l.length : Int) ∧ (rd l ((a + 1)) = 43 ∨ rd l ((a + 1)) = 45))) := ⟨(decide_eq_false (by omega)).symm⟩
            clear hal
            go_wp2_with fail
            go_meet
            case rel => exact ⟨false, rfl, hbb, by first | exact ⟨_, rfl⟩ | (repeat (first | exact Drawn0.refl _ | apply Drawn0.step))⟩
         case rest =>
          obtain ⟨bs, rfl, HBS, ⟨m0, rfl⟩⟩ := hcut
          go_upto_if 143 with (fail)
          go_cut [1] from 7 to 182 (fun v1 wx => ∃ z : Int, v1 = .int .i64 z ∧ Aside0 (z = if a + 1 < (l.length : Int) ∧ (rd l (a + 1) = 43 ∨ rd l (a + 1) = 45) then a + 2 else a + 1) ∧ Drawn0 w wx)
          case first =>
           as_aux_lemma =>
            obtain _ | _ := bs
            ·have HZ : Aside0 (a + 1 = if a + 1 < (l.length : Int) ∧ (rd l (a + 1) = 43 ∨ rd l (a + 1) = 45) then a + 2 else a + 1) := ⟨by rw [if_neg (of_decide_eq_false HBS.out.symm)]⟩
             go_wp2_with fail
             go_meet
             case rel => exact ⟨a + 1, by first | rfl | rw [ea], HZ, by first | exact ⟨_, rfl⟩ | (repeat (first | exact Drawn0.refl _ | apply Drawn0.step))⟩
            ·have HZ : Aside0 (a + 1 + 1 = if a + 1 < (l.length : Int) ∧ (rd l (a + 1) = 43 ∨ rd l (a + 1) = 45) then a + 2 else a + 1) := ⟨by rw [if_pos (of_decide_eq_true HBS.out.symm)]; omega⟩
             go_wp2_with fail
             go_meet
             case rel => exact ⟨a + 1 + 1, by first | rfl | rw [ea2] | rw [ea, ea2], HZ, by first | exact ⟨_, rfl⟩ | (repeat (first | exact Drawn0.refl _ | apply Drawn0.step))⟩
          case rest =>
           obtain ⟨z, rfl, HZ, ⟨m0, rfl⟩⟩ := hcut
           have hz : a + 1 ≤ z ∧ z ≤ a + 2 := by have := HZ.out; split at this <;> omega
           clear ea ea2 HBS
           by_cases hn : z < (l.length : Int)
           ·have d1 : decide ((l.length : Int) ≤ z) = false := decide_eq_false (by omega)
            obtain ⟨ad2, hA, hxi⟩ := Kd.at_int (Kd.C_below HC.out (pw_below_drewN (Below.refl _ _) m0)) z (by omega) hn
            cases hA
            by_cases hd : 48 ≤ rd l (z) ∧ rd l (z) ≤ 57
            ·have c1 : decide (rd l (z) < 48) = false := decide_eq_false (by omega)
             have c2 : decide (57 < rd l (z)) = false := decide_eq_false (by omega)
             obtain ⟨DD, hDD⟩ : ∃ DD, DD = dEnd (rest (l ++ [0]) x) (z - x).toNat := ⟨_, rfl⟩
             have HNN : Aside0 (S = (DD, 0)) := ⟨by rw [HA.out.2.2, num_exp HL.out h0 a1 hal HEXP.out HZ.out hn hd, hDD]⟩
             have HD : Aside0 (dEnd (rest (l ++ [0]) x) (z - x).toNat = DD) := ⟨hDD.symm⟩
             clear hd hDD
             go_wp2_with fail
             go_loopg [1] (l.length + 1) (fun kq v1 w' => ∃ y : Int, v1 = .int .i64 y ∧ Aside0 (z ≤ y ∧ y ≤ l.length ∧ (l.length : Int) + 1 ≤ y + kq ∧ dEnd (rest (l ++ [0]) x) (y - x).toNat = DD) ∧ Drawn0 w w')
             case atStart => exact ⟨z, by first | rfl | rw [ea], ⟨by omega, by omega, by omega, HD.out⟩, by first | exact ⟨_, rfl⟩ | (repeat (first | exact Drawn0.refl _ | apply Drawn0.step))⟩
             case round =>
              as_aux_lemma =>
               obtain ⟨y, rfl, HY, ⟨m1, rfl⟩⟩ := hrel
               obtain ⟨y1, y2, y3, y4⟩ := HY.out
               obtain _ | g1 := gk
               ·exfalso; omega
               have hy0 : 0 ≤ y := by omega
               have e1 : wrap64 (y + 1) = y + 1 := by unfold wrap64; omega
               have HY4 := Aside0.mk y4
               by_cases hyl : y < l.length
               ·have d8 : decide (y < (l.length : Int)) = true := decide_eq_true hyl
                obtain ⟨ad2, hA, hxi⟩ := Kd.at_int (Kd.C_below HC.out (pw_below_drewN (Below.refl _ _) m1)) y hy0 hyl
                cases hA
                by_cases hd : 48 ≤ rd l y ∧ rd l y ≤ 57
                ·have c1 : decide (48 ≤ rd l y) = true := decide_eq_true hd.1
                 have c2 : decide (rd l y ≤ 57) = true := decide_eq_true hd.2
                 have HN := Aside0.mk ((num_in HL.out h0 (by omega) hyl hd).symm.trans y4)
                 clear hd y4
                 go_wp2_with fail
                 go_roundg g1
                 case measure => omega
                 case rel => exact ⟨y + 1, by first | rfl | rw [e1], ⟨by omega, by omega, by omega, HN.out⟩, by first | exact ⟨_, rfl⟩ | (repeat (first | exact Drawn0.refl _ | apply Drawn0.step))⟩
                ·have HN := Aside0.mk (num_out HL.out h0 (by omega) y2 (fun _ => hd))
                 by_cases h48 : 48 ≤ rd l y
                 ·have c1 : decide (48 ≤ rd l y) = true := decide_eq_true h48
                  have c2 : decide (rd l y ≤ 57) = false := decide_eq_false (by omega)
                  clear hd y4 h48
                  go_wp2_with fail
                  go_meet
                  case rel => exact ⟨y, rfl, ⟨by omega, y2, by rw [HNN.out, ← HY4.out, HN.out]⟩, by first | exact ⟨_, rfl⟩ | (repeat (first | exact Drawn0.refl _ | apply Drawn0.step))⟩
                 ·have c1 : decide (48 ≤ rd l y) = false := decide_eq_false h48
                  clear hd y4 h48
                  go_wp2_with fail
                  go_meet
                  case rel => exact ⟨y, rfl, ⟨by omega, y2, by rw [HNN.out, ← HY4.out, HN.out]⟩, by first | exact ⟨_, rfl⟩ | (repeat (first | exact Drawn0.refl _ | apply Drawn0.step))⟩
               ·have d8 : decide (y < (l.length : Int)) = false := decide_eq_false hyl
                have HN := Aside0.mk (num_out HL.out h0 (by omega) y2 (fun h => absurd h hyl))
                clear hyl y4
                go_wp2_with fail
                go_meet
                case rel => exact ⟨y, rfl, ⟨by omega, y2, by rw [HNN.out, ← HY4.out, HN.out]⟩, by first | exact ⟨_, rfl⟩ | (repeat (first | exact Drawn0.refl _ | apply Drawn0.step))⟩
            ·have HNO := Aside0.mk (num_none (HS.out.symm.trans (HA.out.2.2.trans (num_expno HL.out h0 a1 hal HEXP.out HZ.out (fun _ => hd)))))
             by_cases h48 : rd l (z) < 48
             ·have c1 : decide (rd l (z) < 48) = true := decide_eq_true h48
              clear hd h48
              go_wp2_with fail
              go_ret
              exact ⟨⟨-1, rfl, .inl ⟨rfl, HNO.out⟩⟩, by first | exact ⟨_, rfl⟩ | (repeat (first | exact Drawn0.refl _ | apply Drawn0.step))⟩
             ·have c1 : decide (rd l (z) < 48) = false := decide_eq_false h48
              have c2 : decide (57 < rd l (z)) = true := decide_eq_true (by omega)
              clear hd h48
              go_wp2_with fail
              go_ret
              exact ⟨⟨-1, rfl, .inl ⟨rfl, HNO.out⟩⟩, by first | exact ⟨_, rfl⟩ | (repeat (first | exact Drawn0.refl _ | apply Drawn0.step))⟩
           ·have d1 : decide ((l.length : Int) ≤ z) = true := decide_eq_true (by omega)
            have HNO := Aside0.mk (num_none (HS.out.symm.trans (HA.out.2.2.trans (num_expno HL.out h0 a1 hal HEXP.out HZ.out (fun h => absurd h hn)))))
            clear hn
            go_wp2_with fail
            go_ret
            exact ⟨⟨-1, rfl, .inl ⟨rfl, HNO.out⟩⟩, by first | exact ⟨_, rfl⟩ | (repeat (first | exact Drawn0.refl _ | apply Drawn0.step))⟩
      case rest =>
       clear HA a1 a2 ha0 ea ea2 HBB
       obtain ⟨a, rfl, HA, ⟨m0, rfl⟩⟩ := hcut
       obtain ⟨a1, a2, a3⟩ := HA.out
       have HNE := Aside0.mk (num_done (l := l) a1 (by rw [← HS.out]; exact a3))
       clear a3
       go_wp2_with fail
       go_ret
       exact ⟨⟨a, rfl, HNE.out⟩, by first | exact ⟨_, rfl⟩ | (repeat (first | exact Drawn0.refl _ | apply Drawn0.step))⟩
end
end Go.Proofs.YtbikiibpjdiaaaaDoor.Err
