/- FnPlainEnd: where the end of a plain text is told, its bytes are plain and a quote stands there. -/
import Derived.Test.YtfkagnpdapkaaaaDoorValueB
import Derived.Test.YtfkagnpdapkaaaaDoorScC
import Derived.Test.YtfkagnpdapkaaaaDoorQP1
import Derived.Test.YtfkagnpdapkaaaaDoorQN1
namespace Go.Proofs.YtfkagnpdapkaaaaDoor.Err
open Go.RowKit Go.Proofs.YtfkagnpdapkaaaaDoorW.PrintWords Go.Proofs.YtfkagnpdapkaaaaDoorW.PrintLast Go.Proofs.YtfkagnpdapkaaaaDoorW.PrintMore
open Go.Proofs.YtfkagnpdapkaaaaDoor.Dig Go.Proofs.YtfkagnpdapkaaaaDoor.Tab Go.Proofs.YtfkagnpdapkaaaaDoor.QF Go.Proofs.YtfkagnpdapkaaaaDoor.QL Go.Proofs.YtfkagnpdapkaaaaDoor.QP Go.Proofs.YtfkagnpdapkaaaaDoor.QN Go.Proofs.YtfkagnpdapkaaaaDoor.Swar Go.Proofs.YtfkagnpdapkaaaaDoor.Key
set_option linter.unusedVariables false
/-- A byte that ends plain ASCII. -/
def special2 (b : Nat) : Bool := special b || decide (128 ≤ b)
def mask2 (l : List Nat) : Nat := mask l ||| (hw l &&& hw (List.replicate l.length 128))
theorem tops_step (b : Nat) (r : List Nat) (h : Bs (b :: r)) : hw (b :: r) &&& hw (List.replicate (b :: r).length 128) = (b &&& 128) + 256 * (hw r &&& hw (List.replicate r.length 128)) := by
  rw [show hw (b :: r) = b + 256 * hw r from rfl, show hw (List.replicate (b :: r).length 128) = 128 + 256 * hw (List.replicate r.length 128) from rfl, and_step _ _ _ _ (bs_head h) (by decide)]
theorem top_lane : ∀ b : Fin 256, (128 ≤ b.1 → b.1 &&& 128 = 128) ∧ (¬ 128 ≤ b.1 → b.1 &&& 128 = 0) := by decide +kernel
theorem mask2_ok (b : Nat) (r : List Nat) (h : Bs (b :: r)) (hs : special2 b = false) : mask2 (b :: r) = 256 * mask2 r := by
  unfold special2 at hs
  rw [Bool.or_eq_false_iff] at hs
  have h2 : ¬ 128 ≤ b := of_decide_eq_false hs.2
  unfold mask2
  rw [mask_ok b r h hs.1, tops_step b r h, (top_lane ⟨b, bs_head h⟩).2 h2, show 256 * mask r = 0 + 256 * mask r by omega, or_step _ _ _ _ (by decide) (by decide)]
  simp
theorem mask2_bad (b : Nat) (r : List Nat) (h : Bs (b :: r)) (hs : special2 b = true) : ∃ X, mask2 (b :: r) = 128 + 256 * X := by
  unfold mask2
  rw [tops_step b r h]
  by_cases h1 : special b = true
  · obtain ⟨X, hX⟩ := mask_bad b r h h1
    rw [hX]
    by_cases h2 : 128 ≤ b
    · rw [(top_lane ⟨b, bs_head h⟩).1 h2, or_step _ _ _ _ (by decide) (by decide)]; exact ⟨_, rfl⟩
    · rw [(top_lane ⟨b, bs_head h⟩).2 h2, or_step _ _ _ _ (by decide) (by decide)]; exact ⟨_, rfl⟩
  · have h1' : special b = false := by simpa using h1
    have h2 : 128 ≤ b := by unfold special2 at hs; rw [h1'] at hs; simpa using hs
    rw [mask_ok b r h h1', (top_lane ⟨b, bs_head h⟩).1 h2, show 256 * mask r = 0 + 256 * mask r by omega, or_step _ _ _ _ (by decide) (by decide)]
    exact ⟨_, rfl⟩
theorem mask2_zero : ∀ l : List Nat, Bs l → mask2 l = 0 → ∀ b, b ∈ l → special2 b = false
  | [], _, _ => fun b hb => by cases hb
  | a :: r, h, hm => by
    by_cases hs : special2 a = true
    · obtain ⟨X, hX⟩ := mask2_bad a r h hs
      omega
    · have hs' : special2 a = false := by simpa using hs
      rw [mask2_ok a r h hs'] at hm
      intro b hb
      rcases List.mem_cons.1 hb with rfl | hb
      · exact hs'
      · exact mask2_zero r (bs_tail h) (by omega) b hb
theorem mask2_first : ∀ l : List Nat, Bs l → mask2 l ≠ 0 → ∀ n, 8 * l.length ≤ n → ∃ j, Lib.ctzFrom n (mask2 l) = 8 * j + 7 ∧ j < l.length ∧ ∀ i, i < j → special2 (l.getD i 0) = false
  | [], _, hm => absurd rfl hm
  | a :: r, h, hm => by
    intro n hn
    rw [List.length_cons] at hn
    obtain ⟨m, rfl⟩ : ∃ m, n = m + 8 := ⟨n - 8, by omega⟩
    by_cases hs : special2 a = true
    · obtain ⟨X, hX⟩ := mask2_bad a r h hs
      rw [hX, ctz_128]
      exact ⟨0, rfl, by rw [List.length_cons]; omega, fun i hi => absurd hi (by omega)⟩
    · have hs' : special2 a = false := by simpa using hs
      rw [mask2_ok a r h hs'] at hm ⊢
      obtain ⟨j, h1, h2, h4⟩ := mask2_first r (bs_tail h) (by omega) m (by omega)
      refine ⟨j + 1, ?_, by rw [List.length_cons]; omega, fun i hi => ?_⟩
      · rw [show 256 * mask2 r = 0 + 256 * mask2 r by omega, ctz_256, h1]; omega
      · cases i with
        | zero => simpa using hs'
        | succ i => simpa using h4 i (by omega)
/-- A plain byte of ASCII. -/
def PlainA (b : Int) : Prop := Plain b ∧ b < 128
theorem special2_plain {b : Int} (h0 : 0 ≤ b) (h : special2 b.toNat = false) : PlainA b := by
  unfold special2 at h
  rw [Bool.or_eq_false_iff] at h
  have h2 : ¬ 128 ≤ b.toNat := of_decide_eq_false h.2
  exact ⟨(special_plain h0).1 h.1, by omega⟩
theorem wordA {L : List Int} (hT : Txt L) (c : Int) (h0 : 0 ≤ c) (h8 : c + 8 ≤ L.length) : ∃ W S, gojson_load64.f L c = some W ∧ gojson_keyEndBytes.f W = some S ∧
    ((Go.bits .or .u64 S (Go.bits .and .u64 W 9259542123273814144) = 0 ∧ ∀ k, c ≤ k → k < c + 8 → PlainA (rd L k)) ∨ (Go.bits .or .u64 S (Go.bits .and .u64 W 9259542123273814144) ≠ 0 ∧ ∃ j : Int, 0 ≤ j ∧ j < 8 ∧ tz64.f (Go.bits .or .u64 S (Go.bits .and .u64 W 9259542123273814144)) = some (8 * j + 7) ∧ ∀ k, c ≤ k → k < c + j → PlainA (rd L k))) := by
  obtain ⟨i, rfl⟩ := Int.eq_ofNat_of_zero_le h0
  have hb := hT.list
  have hl := nb_length L 8 i
  have hbs := nb_bs L hb 8 i
  have get : ∀ j, j < 8 → (nb L 8 i).getD j 0 = (rd L ((i : Int) + j)).toNat := fun j hj => by
    rw [nb_get L 8 i j hj, show (((i + j : Nat)) : Int) = (i : Int) + j by omega]
  have pos : ∀ j : Nat, j < 8 → 0 ≤ rd L ((i : Int) + j) := fun j hj => (hT.bytes _ (by omega) (by omega)).1
  have hmlt : mask (nb L 8 i) < 18446744073709551616 := Nat.lt_of_le_of_lt Nat.and_le_right (by rw [hl]; decide)
  have hwlt : hw (nb L 8 i) < 18446744073709551616 := by have := hw_lt _ hbs; rw [hl] at this; exact this
  have hstop : Go.bits .or .u64 ((mask (nb L 8 i) : Nat) : Int) (Go.bits .and .u64 ((hw (nb L 8 i) : Nat) : Int) 9259542123273814144) = ((mask2 (nb L 8 i) : Nat) : Int) := by
    unfold mask2
    rw [hl, show hw (List.replicate 8 128) = 9259542123273814144 from rfl]
    have ea : Go.bits .and .u64 ((hw (nb L 8 i) : Nat) : Int) ((9259542123273814144 : Nat) : Int) = ((hw (nb L 8 i) &&& 9259542123273814144 : Nat) : Int) := bits_and _ _ hwlt (by decide)
    rw [show (9259542123273814144 : Int) = ((9259542123273814144 : Nat) : Int) from rfl, ea]
    exact bits_or _ _ hmlt (Nat.lt_of_le_of_lt Nat.and_le_left hwlt)
  refine ⟨((hw (nb L 8 i) : Nat) : Int), ((mask (nb L 8 i) : Nat) : Int), ?_, key_word _ hl hbs, ?_⟩
  · unfold gojson_load64.f
    rw [if_pos h0, if_pos (by omega), Int.toNat_natCast, le64_f L hb i (by omega)]
    rfl
  · rw [hstop]
    by_cases hm : mask2 (nb L 8 i) = 0
    · refine .inl ⟨by rw [hm]; rfl, fun k h1 h2 => ?_⟩
      obtain ⟨j, rfl⟩ : ∃ j : Nat, k = (i : Int) + j := ⟨(k - i).toNat, by omega⟩
      have hj : j < 8 := by omega
      have := mask2_zero _ hbs hm ((nb L 8 i).getD j 0) (by rw [List.getD_eq_getElem?_getD, List.getElem?_eq_getElem (by omega)]; exact List.getElem_mem _)
      rw [get j hj] at this
      exact special2_plain (pos j hj) this
    · obtain ⟨j, h1, h2, h4⟩ := mask2_first _ hbs hm 64 (by omega)
      rw [hl] at h2
      refine .inr ⟨by omega, (j : Int), by omega, by omega, ?_, fun k h5 h6 => ?_⟩
      · have hlt : mask2 (nb L 8 i) < 18446744073709551616 := by
          unfold mask2
          rw [hl]
          exact Nat.or_lt_two_pow (n := 64) hmlt (Nat.lt_of_le_of_lt Nat.and_le_left hwlt)
        unfold tz64.f
        rw [if_pos ⟨by omega, by omega⟩, Int.toNat_natCast]
        unfold Lib.ctz
        first | rw [if_neg hm, h1] | rw [h1]
        congr 1
      · obtain ⟨m, rfl⟩ : ∃ m : Nat, k = (i : Int) + m := ⟨(k - i).toNat, by omega⟩
        have := h4 m (by omega)
        rw [get m (by omega)] at this
        exact special2_plain (pos m (by omega)) this
/-- What plainStringEnd tells. -/
def PlainTold (L : List Int) (x r : Int) : Prop := r = -1 ∨ (x ≤ r ∧ r < L.length ∧ rd L r = 34 ∧ ∀ k, x ≤ k → k < r → PlainA (rd L k))
theorem plain_f {L : List Int} (hT : Txt L) (x : Int) (h0 : 0 ≤ x) : ∀ n : Nat, ∀ c : Int, x ≤ c → (L.length : Int) - c ≤ n → c ≤ L.length + 8 → (∀ k, x ≤ k → k < c → PlainA (rd L k)) → ∃ k r, gojson_plainStringEnd.l0 k L c (L.length : Int) = some r ∧ PlainTold L x r := by
  have hsm := hT.small
  intro n
  induction n with
  | zero =>
    intro c hc hn hc2 hp
    refine ⟨1, -1, ?_, .inl rfl⟩
    unfold gojson_plainStringEnd.l0
    rw [if_neg (by unfold wrap64; omega)]
  | succ n ih =>
    intro c hc hn hc2 hp
    by_cases h8 : c + 8 ≤ L.length
    · obtain ⟨W, S, hW, hS, h | ⟨hne, j, hj0, hj1, htz, hpl⟩⟩ := wordA hT c (by omega) h8
      · obtain ⟨k, r, hk, hr⟩ := ih (c + 8) (by omega) (by omega) (by omega) (fun m h1 h2 => if hm : m < c then hp m h1 hm else h.2 m (by omega) h2)
        refine ⟨k + 1, r, ?_, hr⟩
        unfold gojson_plainStringEnd.l0
        rw [if_pos (by unfold wrap64; omega), hW, Option.bind_some, hS, Option.bind_some, if_pos h.1, show wrap64 (c + 8) = c + 8 by unfold wrap64; omega]
        exact hk
      · have e1 : wrap64 (Int.tdiv (8 * j + 7) 8) = j := by rw [Int.tdiv_eq_ediv_of_nonneg (by omega)]; unfold wrap64; omega
        have e2 : wrap64 (c + j) = c + j := by unfold wrap64; omega
        have hbody : gojson_plainStringEnd.l0 1 L c (L.length : Int) = if rd L (c + j) = 34 then some (c + j) else some (-1) := by
          unfold gojson_plainStringEnd.l0
          rw [if_pos (by unfold wrap64; omega), hW, Option.bind_some, hS, Option.bind_some, if_neg hne, htz, Option.bind_some, e1, e2, if_pos (by omega), if_pos (by omega)]
        by_cases hq : rd L (c + j) = 34
        · exact ⟨1, c + j, by rw [hbody, if_pos hq], .inr ⟨by omega, by omega, hq, fun k h1 h2 => if hk : k < c then hp k h1 hk else hpl k (by omega) h2⟩⟩
        · exact ⟨1, -1, by rw [hbody, if_neg hq], .inl rfl⟩
    · refine ⟨1, -1, ?_, .inl rfl⟩
      unfold gojson_plainStringEnd.l0
      rw [if_neg (by unfold wrap64; omega)]
theorem isPlain_f (l : List Int) (hl : l.length ≤ 10000) (hp : ∀ k : Int, 0 ≤ k → k < l.length → PlainA (rd l k)) : ∀ n : Nat, ∀ c : Int, 0 ≤ c → c ≤ l.length → (l.length : Int) - c = n → ∃ k, spec_IsPlain.l0 k l (l.length : Int) c = some true := by
  intro n
  induction n with
  | zero =>
    intro c h0 h1 hn
    refine ⟨1, ?_⟩
    unfold spec_IsPlain.l0
    rw [if_neg (by omega)]
  | succ n ih =>
    intro c h0 h1 hn
    obtain ⟨k, hk⟩ := ih (c + 1) (by omega) (by omega) (by omega)
    obtain ⟨⟨p1, p2, p3⟩, p4⟩ := hp c h0 (by omega)
    refine ⟨k + 1, ?_⟩
    unfold spec_IsPlain.l0
    rw [if_pos (by omega), if_pos h0, if_pos (by omega), if_neg (by omega), if_neg (by omega), if_neg p2, if_neg p3, show wrap64 (c + 1) = c + 1 by unfold wrap64; omega]
    exact hk
section
variable {q : ByteArray → ByteArray}
set_option maxRecDepth 100000 in
set_option maxHeartbeats 4000000 in
theorem impl44 (A : Option Addr) (c : Nat) (l : List Int) (x : Int) (w : World) (hC : Kd.C (Kd.int .u8) w A l.length l) (hcap : l.length ≤ c) (hb : ∀ y, y ∈ l → 0 ≤ y ∧ y < 256) (hl : l.length ≤ 10000) (h0 : 0 ≤ x) (h1 : x ≤ l.length) (hG : G q w) :
    Calls Tryd.prog 44 #[.slice A l.length c, .int .i64 x] w fun e w' => ∃ r, PlainTold (l ++ [0]) x r ∧ e = .returned (.int .i64 r) ∧ Below w.heap.size w w' := by
  have HI := Aside0.mk (input A c l w hC hcap hb hl)
  have HLEN : Aside0 (∀ L, L = l ++ [0] → (L.length : Int) = l.length + 1) := ⟨fun L h => by rw [h, List.length_append]; rfl⟩
  have HG := Aside0.mk hG
  clear hC hb hG
  go_enter Tryd.func44, Tryd.ntmps44
  go_wp2_with fail
  with_reducible refine HI.out.mono ?_
  rintro e w1 ⟨ad, cc, L, rfl, HL, hB1, hb1⟩
  have hlen := HLEN.out L HL.out
  have hsm := hB1.small
  obtain ⟨k, r, hk, hr⟩ := plain_f hB1.txt x h0 ((L.length : Int) - x).toNat x (Int.le_refl _) (by omega) (by omega) (fun k h1 h2 => by omega)
  have h91 : Calls Tryd.prog 91 #[.slice (some ad) L.length cc, .int .i64 x] w1 fun e w' => e = .returned (.int .i64 r) ∧ Below w1.heap.size w1 w' := (gojson_plainStringEnd.calls k (some ad) cc L x r w1 hB1.C hB1.cap (HG.out.below hb1).tab hk).mono fun e w' ⟨h1, h2⟩ => ⟨h1, h2.below⟩
  have H68 : Aside0 (Calls Tryd.prog 68 #[.slice (some ad) L.length cc, .int .i64 x] w1 fun e w' => e = .returned (.int .i64 r) ∧ Below w1.heap.size w1 w') := ⟨by
    have HC := Aside0.mk h91
    clear h91 hk hr hB1
    go_enter Tryd.func68, Tryd.ntmps68
    go_wp2_with fail
    with_reducible refine HC.out.mono ?_
    rintro e w2 ⟨rfl, hb2⟩
    have HB2 := Aside0.mk hb2
    clear hb2
    go_wp2_with fail
    go_ret
    exact ⟨rfl, HB2.out⟩⟩
  have HR : Aside0 (PlainTold (l ++ [0]) x r) := ⟨by rw [← HL.out]; exact hr⟩
  have HB1 := Aside0.mk hb1
  clear h91 hk hr hB1 hb1
  go_wp2_with fail
  with_reducible refine H68.out.mono ?_
  rintro e w2 ⟨rfl, hb2⟩
  have HB2 := Aside0.mk (below_step HB1.out hb2)
  clear hb2
  go_wp2_with fail
  go_ret
  exact ⟨r, HR.out, rfl, HB2.out⟩
set_option maxRecDepth 100000 in
set_option maxHeartbeats 8000000 in
theorem plainLaw (A : Option Addr) (c : Nat) (l : List Int) (i : Int) (w : World) (hG : G q w) (hC : Kd.C (Kd.int .u8) w A l.length l) (hcap : l.length ≤ c) (hb : ∀ y, y ∈ l → 0 ≤ y ∧ y < 256) (hm : l.length ≤ maxLen) (hi : -9223372036854775808 ≤ i ∧ i ≤ 9223372036854775807) :
    Calls Tryd.prog 17 #[.slice A l.length c, .int .i64 i] w fun e w' => e = .returned (.bool true) ∧ Below w.heap.size w w' := by
  unfold maxLen at hm
  have HF : Aside0 (∀ W, Below w.heap.size w W → Calls Tryd.prog 24 #[.slice A l.length c, .int .i64 i] W fun e w' => e = .returned (.bool (decide (l.length ≤ 10000 ∧ 0 ≤ i ∧ i ≤ l.length))) ∧ Drawn0 W w') := ⟨fun W hW => fitsB A c l i W (Kd.C_below hC hW) hcap⟩
  have HC := Aside0.mk hC
  have HBY := Aside0.mk hb
  have HG := Aside0.mk hG
  clear hC hb hG
  by_cases z1 : (l.length : Int) > 2147483647
  · go_enter Tryd.func17, Tryd.ntmps17
    go_wp2_with fail
    all_goals
      go_ret
      exact ⟨rfl, Below.refl _ _⟩
  by_cases z2 : l.length ≤ 10000 ∧ 0 ≤ i ∧ i ≤ l.length
  rotate_left
  · have HF2 : Aside0 (∀ W, Below w.heap.size w W → Calls Tryd.prog 24 #[.slice A l.length c, .int .i64 i] W fun e w' => e = .returned (.bool false) ∧ Drawn0 W w') := ⟨fun W hW => by have := HF.out W hW; rw [decide_eq_false z2] at this; exact this⟩
    clear z2
    go_enter Tryd.func17, Tryd.ntmps17
    go_wp2_with fail
    with_reducible refine (HF2.out _ (Below.refl _ _)).mono ?_
    rintro e w1 ⟨rfl, ⟨m1, rfl⟩⟩
    go_wp2_with fail
    go_ret
    exact ⟨rfl, pw_below_drewN (Below.refl _ _) _⟩
  have HF2 : Aside0 (∀ W, Below w.heap.size w W → Calls Tryd.prog 24 #[.slice A l.length c, .int .i64 i] W fun e w' => e = .returned (.bool true) ∧ Drawn0 W w') := ⟨fun W hW => by have := HF.out W hW; rw [decide_eq_true z2] at this; exact this⟩
  obtain ⟨z3, z4, z5⟩ := z2
  have HV : Aside0 (∀ W, Below w.heap.size w W → Calls Tryd.prog 44 #[.slice A l.length c, .int .i64 i] W fun e w' => ∃ r, PlainTold (l ++ [0]) i r ∧ e = .returned (.int .i64 r) ∧ Below W.heap.size W w') := ⟨fun W hW => impl44 A c l i W (Kd.C_below HC.out hW) hcap HBY.out z3 z4 z5 (HG.out.below hW)⟩
  have HWK : Aside0 (∀ W, Below w.heap.size w W → Calls Tryd.prog 22 #[] W fun e w' => e = .returned (.bool true) ∧ Below W.heap.size W w') := ⟨fun W hW => works q W (HG.out.below hW)⟩
  have HLEN : Aside0 ((l ++ [(0 : Int)]).length = l.length + 1) := ⟨by rw [List.length_append]; rfl⟩
  go_enter Tryd.func17, Tryd.ntmps17
  go_wp2_with fail
  with_reducible refine (HF2.out _ (Below.refl _ _)).mono ?_
  rintro e w1 ⟨rfl, ⟨m1, rfl⟩⟩
  go_wp2_with fail
  with_reducible refine (HV.out _ (pw_below_drewN (Below.refl _ _) _)).mono ?_
  rintro e w2 ⟨r, hr, rfl, hb2⟩
  have HB2 := Aside0.mk (belowD hb2)
  clear hb2
  rcases hr with rfl | ⟨hr0, hr1, hr2, hr3⟩
  · go_wp2_with fail
    with_reducible refine (HWK.out _ HB2.out).mono ?_
    rintro e w3 ⟨rfl, hb3⟩
    have HB3 := Aside0.mk (below_step HB2.out hb3)
    clear hb3
    go_wp2_with fail
    go_ret
    exact ⟨rfl, HB3.out⟩
  · have hrn : r < (l.length : Int) := by
      by_cases h : r = l.length
      · exfalso
        rw [h, rd_last] at hr2
        exact absurd hr2 (by decide)
      · have := HLEN.out; omega
    have hrd : ∀ k : Int, 0 ≤ k → k < l.length → rd (l ++ [0]) k = rd l k := fun k h1 h2 => by
      obtain ⟨n, rfl⟩ := Int.eq_ofNat_of_zero_le h1
      exact rd_app l [0] n (by omega)
    obtain ⟨ad, rfl, hx⟩ := Kd.at_int (Kd.C_below HC.out HB2.out) r (by omega) hrn
    rw [hrd r (by omega) hrn] at hr2
    rw [hr2] at hx
    obtain ⟨i06, hi06, _, hsz6, _⟩ := info_parts QF.info5
    obtain ⟨A6, hcut6, hA6, hC6⟩ := print_mid_of (P := Tryd.prog) (Value.int .u8) 0 22 5 .i64 .i64 Tryd.underlying22 hi06 hsz6 (some ad) c l i r z4 hr0 (by omega) hcap
    have hlen : ((l.take r.toNat).drop i.toNat).length = (r - i).toNat := by rw [List.length_drop, List.length_take]; omega
    have hpl : ∀ k : Int, 0 ≤ k → k < ((l.take r.toNat).drop i.toNat).length → PlainA (rd ((l.take r.toNat).drop i.toNat) k) := fun k h1 h2 => by
      rw [hlen] at h2
      have h3 := hr3 (i + k) (by omega) (by omega)
      rw [hrd (i + k) (by omega) (by omega)] at h3
      have e : rd ((l.take r.toNat).drop i.toNat) k = rd l (i + k) := by
        obtain ⟨n, rfl⟩ := Int.eq_ofNat_of_zero_le h1
        obtain ⟨m, rfl⟩ := Int.eq_ofNat_of_zero_le z4
        unfold rd
        rw [show ((m : Int) + (n : Int)).toNat = m + n by omega]
        simp only [Int.toNat_natCast, List.getD_eq_getElem?_getD, List.getElem?_drop, List.getElem?_take]
        rw [if_pos (by omega)]
      rw [e]
      exact h3
    obtain ⟨k, hk⟩ := isPlain_f _ (by rw [hlen]; omega) hpl _ 0 (Int.le_refl _) (by omega) rfl
    generalize (l.take r.toNat).drop i.toNat = S at hcut6 hA6 hC6 hlen hpl hk
    have HS : Aside0 (∀ W, Below w.heap.size w W → Calls Tryd.prog 45 #[.slice A6 S.length (c - i.toNat)] W fun e w' => e = .returned (.bool true) ∧ Drawn0 W w') := ⟨fun W hW => spec_IsPlain.calls k A6 _ _ true W (Kd.C_of_reads (h1 := fun _ => rfl) (hA6 W (Kd.reads_of_C (Kd.C_below HC.out hW)))) hC6 hk⟩
    clear hr3 hrd hr2 hA6 hC6 hi06 hsz6 hlen hpl hk hr1
    have hr4 : 0 ≤ r := by omega
    go_wp2_with fail
    with_reducible refine (HS.out _ HB2.out).mono ?_
    rintro e w3 ⟨rfl, ⟨n3, rfl⟩⟩
    go_wp2_with fail
    go_ret
    exact ⟨rfl, pw_below_drewN HB2.out _⟩
end
theorem plain_walk (a0 : Option Addr) (len0 cap0 : Nat) (z0 : List Int) (a1 : Int) (w : World) (w0 : (a0 = none ∧ len0 = 0 ∧ cap0 = 0 ∧ z0 = []) ∨ ∃ x, a0 = some x ∧ len0 ≤ cap0 ∧ cap0 ≤ maxLen ∧ z0.length = cap0 ∧ (∀ i, i < z0.length → w.cell? (x.add i) = some (.int .u8 (z0.getD i 0))) ∧ ∀ n ∈ z0, (Lit.int .u8 n).wf = true) (y0 : len0 * 1 ≤ 140737488351232) (w1 : (Lit.int .i64 a1).wf = true) (hG : G Laid.goQ w) :
    Calls Tryd.prog 17 #[.slice a0 len0 cap0, .int .i64 a1] w fun e w' => e = .returned (.bool true) ∧ Below w.heap.size w w' := by
  obtain ⟨l0, rfl, hr0, hm0, hw0, hc0⟩ := ReadsInt.ofRowC w0
  exact plainLaw _ _ l0 a1 w hG (Kd.C_of_reads (d := (0 : Int)) (h1 := fun _ => rfl) hr0) hc0 (fun x hx => by have := bytes_of l0 hw0 x hx; omega) hm0 (wfI64 w1)
end Go.Proofs.YtfkagnpdapkaaaaDoor.Err
