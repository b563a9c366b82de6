/- FnFault, FnFaultWords: the first fault of bytes is what the reference tells. -/
import Derived.Test.YtfkagnpdapkaaaaDoorFaultW
import Derived.Test.YtfkagnpdapkaaaaDoorScG
namespace Go.Proofs.YtfkagnpdapkaaaaDoor.Err
open Go.RowKit Go.Proofs.YtfkagnpdapkaaaaDoorW.PrintWords Go.Proofs.YtfkagnpdapkaaaaDoorW.PrintLast Go.Proofs.YtfkagnpdapkaaaaDoorW.PrintMore
open Go.Proofs.YtfkagnpdapkaaaaDoor.Dig Go.Proofs.YtfkagnpdapkaaaaDoor.Tab Go.Proofs.YtfkagnpdapkaaaaDoor.QF
set_option linter.unusedVariables false
/-- Both faults: there is none, or they say the same. -/
theorem both {q : ByteArray → ByteArray} {l : List Int} {r : Option SE} (hT : Txt (l ++ [0])) (h : InsR q (l ++ [0]) r) :
    (ff q l .val [] 0 = none ∧ r = none) ∨ ∃ (k : Nat) (e : Bool) (m : ByteArray) (va : Int), ff q l .val [] 0 = some ((k : Int), e, m) ∧ r = some ⟨m, (if e = true then (k : Int) else (k : Int) + 1), e, va⟩ ∧ k ≤ l.length ∧ (e = true → va = 0 ∧ k = l.length) ∧
      (e = false → k < l.length ∧ ((va = 0 ∧ m ≠ badWords q (rd l k) wValue) ∨ (va = (k : Int) + 1 ∧ m = badWords q (rd l k) wValue))) := by
  rcases ins_ff hT h with h | ⟨k, e, m, s, h1, h2, h3⟩
  · exact .inl h
  · obtain ⟨msg, off, ae, va⟩ := s
    obtain ⟨h4, h5, h6, h7, h8, h9⟩ := h3
    dsimp only at h5 h6 h7 h8 h9
    subst h5 h6 h7
    exact .inr ⟨k, ae, msg, va, h1, h2, h4, h8, h9⟩
section
variable {q : ByteArray → ByteArray}
/-- The first fault, as the thin package and the reference tell it of a text that came in. -/
structure FaultCtx (q : ByteArray → ByteArray) (A : Option Addr) (c : Nat) (l : List Int) (w : World) : Prop where
  got : Calls Tryd.prog 19 #[.slice A l.length c] w fun e w' => ∃ r, Txt (l ++ [0]) ∧ InsR q (l ++ [0]) r ∧ e = .returned (faultO r) ∧ Below w.heap.size w w'
  due : ∀ W, Below w.heap.size w W → Calls Tryd.prog 20 #[.slice A l.length c] W fun e w' => e = .returned (ffV (ff q l .val [] 0)) ∧ Below W.heap.size W w'
theorem fctx (A : Option Addr) (c : Nat) (l : List Int) (w : World) (hG : G q w) (hC : Kd.C (Kd.int .u8) w A l.length l) (hcap : l.length ≤ c) (hb : ∀ y, y ∈ l → 0 ≤ y ∧ y < 256) (hl : l.length ≤ 10000) : FaultCtx q A c l w :=
  ⟨implFault q A c l w hG hC hcap hb hl, fun W hW => firstFault A c l W (hG.below hW) (Kd.C_below hC hW) hcap hb hl⟩
set_option maxRecDepth 100000 in
set_option maxHeartbeats 8000000 in
theorem faultLaw (A : Option Addr) (c : Nat) (l : List Int) (w : World) (hG : G q w) (hC : Kd.C (Kd.int .u8) w A l.length l) (hcap : l.length ≤ c) (hb : ∀ y, y ∈ l → 0 ≤ y ∧ y < 256) (hm : l.length ≤ maxLen) :
    Calls Tryd.prog 15 #[.slice A l.length c] w fun e w' => e = .returned (.bool true) ∧ Below w.heap.size w w' := by
  unfold maxLen at hm
  by_cases z1 : (l.length : Int) > 2147483647
  · clear hC hb hG
    go_enter Tryd.func15, Tryd.ntmps15
    go_wp2_with fail
    go_ret
    exact ⟨rfl, Below.refl _ _⟩
  by_cases z2 : (l.length : Int) > 10000
  · clear hC hb hG
    go_enter Tryd.func15, Tryd.ntmps15
    go_wp2_with fail
    go_ret
    exact ⟨rfl, Below.refl _ _⟩
  have HF := Aside0.mk (fctx A c l w hG hC hcap hb (by omega))
  clear hC hb hG
  go_enter Tryd.func15, Tryd.ntmps15
  go_wp2_with fail
  with_reducible refine HF.out.got.mono ?_
  rintro e w1 ⟨r, hT, hr, rfl, hb1⟩
  have HB1 := Aside0.mk hb1
  rcases both hT hr with ⟨hff, rfl⟩ | ⟨k, e, m, va, hff, rfl, hk, he1, he0⟩
  · have HD : Aside0 (∀ W, Below w.heap.size w W → Calls Tryd.prog 20 #[.slice A l.length c] W fun e w' => e = .returned (.tuple #[.agg #[.int .i64 0, .bool false, .string ByteArray.empty], .bool false]) ∧ Below W.heap.size W w') := ⟨fun W hW => by have := HF.out.due W hW; rw [hff] at this; exact this⟩
    clear hr hT hff hb1
    unfold faultO noFault
    go_wp2_with fail
    with_reducible refine (HD.out _ (below_alloc HB1.out _)).mono ?_
    rintro e w2 ⟨rfl, hb2⟩
    have hblk := (hb2.block w1.heap.size (blk_lt' (blk_new w1 _))).trans (blk_new w1 _)
    obtain ⟨c0, c1, c2, c3, c4, c5, k0, k1, k2, k3, k4, k5⟩ := six' hblk
    have HB2 := Aside0.mk (below_step (below_alloc HB1.out _) hb2)
    clear hblk hb2
    go_wp2_with fail
    go_ret
    exact ⟨rfl, below_alloc HB2.out _⟩
  · have HD : Aside0 (∀ W, Below w.heap.size w W → Calls Tryd.prog 20 #[.slice A l.length c] W fun e' w' => e' = .returned (.tuple #[.agg #[.int .i64 k, .bool e, .string m], .bool true]) ∧ Below W.heap.size W w') := ⟨fun W hW => by have := HF.out.due W hW; rw [hff] at this; exact this⟩
    clear hr hT hff hb1 he1 he0
    unfold faultO faultV
    cases e with
    | true =>
      rw [if_pos rfl]
      go_wp2_with fail
      with_reducible refine (HD.out _ (below_alloc HB1.out _)).mono ?_
      rintro e w2 ⟨rfl, hb2⟩
      have hblk := (hb2.block w1.heap.size (blk_lt' (blk_new w1 _))).trans (blk_new w1 _)
      obtain ⟨c0, c1, c2, c3, c4, c5, k0, k1, k2, k3, k4, k5⟩ := six' hblk
      have HB2 := Aside0.mk (below_step (below_alloc HB1.out _) hb2)
      clear hblk hb2
      go_wp2_with fail
      go_ret
      exact ⟨rfl, below_alloc HB2.out _⟩
    | false =>
      rw [if_neg (by decide)]
      go_wp2_with fail
      with_reducible refine (HD.out _ (below_alloc HB1.out _)).mono ?_
      rintro e w2 ⟨rfl, hb2⟩
      have hblk := (hb2.block w1.heap.size (blk_lt' (blk_new w1 _))).trans (blk_new w1 _)
      obtain ⟨c0, c1, c2, c3, c4, c5, k0, k1, k2, k3, k4, k5⟩ := six' hblk
      have HB2 := Aside0.mk (below_step (below_alloc HB1.out _) hb2)
      clear hblk hb2
      go_wp2_with fail
      go_ret
      exact ⟨rfl, below_alloc HB2.out _⟩
set_option maxRecDepth 100000 in
set_option maxHeartbeats 8000000 in
theorem wordsLaw (A : Option Addr) (c : Nat) (l : List Int) (w : World) (hG : G q w) (hC : Kd.C (Kd.int .u8) w A l.length l) (hcap : l.length ≤ c) (hb : ∀ y, y ∈ l → 0 ≤ y ∧ y < 256) (hm : l.length ≤ maxLen) :
    Calls Tryd.prog 16 #[.slice A l.length c] w fun e w' => e = .returned (.bool true) ∧ Below w.heap.size w w' := by
  unfold maxLen at hm
  by_cases z1 : (l.length : Int) > 2147483647
  · clear hC hb hG
    go_enter Tryd.func16, Tryd.ntmps16
    go_wp2_with fail
    go_ret
    exact ⟨rfl, Below.refl _ _⟩
  by_cases z2 : (l.length : Int) > 10000
  · clear hC hb hG
    go_enter Tryd.func16, Tryd.ntmps16
    go_wp2_with fail
    go_ret
    exact ⟨rfl, Below.refl _ _⟩
  have HF := Aside0.mk (fctx A c l w hG hC hcap hb (by omega))
  clear hC hb hG
  go_enter Tryd.func16, Tryd.ntmps16
  go_wp2_with fail
  with_reducible refine HF.out.got.mono ?_
  rintro e w1 ⟨r, hT, hr, rfl, hb1⟩
  have HB1 := Aside0.mk hb1
  rcases both hT hr with ⟨hff, rfl⟩ | ⟨k, e, m, va, hff, rfl, hk, he1, he0⟩
  · have HD : Aside0 (∀ W, Below w.heap.size w W → Calls Tryd.prog 20 #[.slice A l.length c] W fun e w' => e = .returned (.tuple #[.agg #[.int .i64 0, .bool false, .string ByteArray.empty], .bool false]) ∧ Below W.heap.size W w') := ⟨fun W hW => by have := HF.out.due W hW; rw [hff] at this; exact this⟩
    clear hr hT hff hb1
    unfold faultO noFault
    go_wp2_with fail
    with_reducible refine (HD.out _ (below_alloc HB1.out _)).mono ?_
    rintro e w2 ⟨rfl, hb2⟩
    have hblk := (hb2.block w1.heap.size (blk_lt' (blk_new w1 _))).trans (blk_new w1 _)
    obtain ⟨c0, c1, c2, c3, c4, c5, k0, k1, k2, k3, k4, k5⟩ := six' hblk
    have HB2 := Aside0.mk (below_step (below_alloc HB1.out _) hb2)
    clear hblk hb2
    go_wp2_with fail
    go_ret
    exact ⟨rfl, below_alloc HB2.out _⟩
  · have HD : Aside0 (∀ W, Below w.heap.size w W → Calls Tryd.prog 20 #[.slice A l.length c] W fun e' w' => e' = .returned (.tuple #[.agg #[.int .i64 k, .bool e, .string m], .bool true]) ∧ Below W.heap.size W w') := ⟨fun W hW => by have := HF.out.due W hW; rw [hff] at this; exact this⟩
    clear hr hT hff hb1 he1 he0
    unfold faultO faultV
    generalize (if e = true then (k : Int) else (k : Int) + 1) = off
    go_wp2_with fail
    with_reducible refine (HD.out _ (below_alloc HB1.out _)).mono ?_
    rintro e w2 ⟨rfl, hb2⟩
    have hblk := (hb2.block w1.heap.size (blk_lt' (blk_new w1 _))).trans (blk_new w1 _)
    obtain ⟨c0, c1, c2, c3, c4, c5, k0, k1, k2, k3, k4, k5⟩ := six' hblk
    have HB2 := Aside0.mk (below_step (below_alloc HB1.out _) hb2)
    clear hblk hb2
    go_wp2_with fail
    go_ret
    exact ⟨rfl, below_alloc HB2.out _⟩
end
theorem fault_walk (a0 : Option Addr) (len0 cap0 : Nat) (z0 : List Int) (w : World) (w0 : (a0 = none ∧ len0 = 0 ∧ cap0 = 0 ∧ z0 = []) ∨ ∃ x, a0 = some x ∧ len0 ≤ cap0 ∧ cap0 ≤ maxLen ∧ z0.length = cap0 ∧ (∀ i, i < z0.length → w.cell? (x.add i) = some (.int .u8 (z0.getD i 0))) ∧ ∀ n ∈ z0, (Lit.int .u8 n).wf = true) (y0 : len0 * 1 ≤ 140737488351232) (hG : G Laid.goQ w) :
    Calls Tryd.prog 15 #[.slice a0 len0 cap0] w fun e w' => e = .returned (.bool true) ∧ Below w.heap.size w w' := by
  obtain ⟨l0, rfl, hr0, hm0, hw0, hc0⟩ := ReadsInt.ofRowC w0
  exact faultLaw _ _ l0 w hG (Kd.C_of_reads (d := (0 : Int)) (h1 := fun _ => rfl) hr0) hc0 (fun x hx => by have := bytes_of l0 hw0 x hx; omega) hm0
theorem words_walk (a0 : Option Addr) (len0 cap0 : Nat) (z0 : List Int) (w : World) (w0 : (a0 = none ∧ len0 = 0 ∧ cap0 = 0 ∧ z0 = []) ∨ ∃ x, a0 = some x ∧ len0 ≤ cap0 ∧ cap0 ≤ maxLen ∧ z0.length = cap0 ∧ (∀ i, i < z0.length → w.cell? (x.add i) = some (.int .u8 (z0.getD i 0))) ∧ ∀ n ∈ z0, (Lit.int .u8 n).wf = true) (y0 : len0 * 1 ≤ 140737488351232) (hG : G Laid.goQ w) :
    Calls Tryd.prog 16 #[.slice a0 len0 cap0] w fun e w' => e = .returned (.bool true) ∧ Below w.heap.size w w' := by
  obtain ⟨l0, rfl, hr0, hm0, hw0, hc0⟩ := ReadsInt.ofRowC w0
  exact wordsLaw _ _ l0 w hG (Kd.C_of_reads (d := (0 : Int)) (h1 := fun _ => rfl) hr0) hc0 (fun x hx => by have := bytes_of l0 hw0 x hx; omega) hm0
end Go.Proofs.YtfkagnpdapkaaaaDoor.Err
