/- What the package tells of a whole input: walks, up to the thin package. -/
import Derived.Test.YtfkagnpdapkaaaaDoorFaultP
import Derived.Test.YtfkagnpdapkaaaaDoorScG
namespace Go.Proofs.YtfkagnpdapkaaaaDoor.Err
open Go.RowKit Go.Proofs.YtfkagnpdapkaaaaDoorW.PrintWords Go.Proofs.YtfkagnpdapkaaaaDoorW.PrintLast Go.Proofs.YtfkagnpdapkaaaaDoorW.PrintMore
open Go.Proofs.YtfkagnpdapkaaaaDoor.Dig Go.Proofs.YtfkagnpdapkaaaaDoor.Tab Go.Proofs.YtfkagnpdapkaaaaDoor.QF
set_option linter.unusedVariables false
/-- An error, or none. -/
def ErrV (w : World) (r : Option SE) (e : Ending) (w' : World) : Prop := Below w.heap.size w w' ∧ match r with
  | none => e = .returned .nilIface
  | some s => ∃ g, e = .returned (.iface 86 (.pointer (some ⟨g, 0, none⟩))) ∧ PT w' g s
/-- What stands behind a value that ends at x. -/
def endR (q : ByteArray → ByteArray) (L : List Int) (j : Int) : Option SE := if j = (L.length : Int) - 1 then none else some (faultAt q L j 5)
set_option maxRecDepth 100000 in
set_option maxHeartbeats 4000000 in
theorem validateEnd (q : ByteArray → ByteArray) (ad : Addr) (c : Nat) (L : List Int) (x : Int) (w : World) (hG : G q w) (hB : Buf w ad c L) (h0 : 0 ≤ x) (h1 : x < L.length) :
    ∃ j, RunTo isBlank L x j ∧ Calls Tryd.prog 67 #[.slice (some ad) L.length c, .int .i64 x] w (ErrV w (endR q L j)) := by
  obtain ⟨j, hr, hc⟩ := skipWs hB x h0 h1
  refine ⟨j, hr, ?_⟩
  have hsm := hB.small
  have hj0 := hr.le
  have hj1 := hr.lt
  have HC := Aside0.mk hc
  have HE : Aside0 (∀ m, Calls Tryd.prog 90 #[.slice (some ad) L.length c, .int .i64 j, .int .u8 5] (w.drewN m) (Gives (w.drewN m) (faultAt q L j 5))) := ⟨fun m => syntaxErrorAt q ad c L j 5 _ (hG.drewN m) (hB.drewN m) (by omega) hj1⟩
  clear hc hG hB hr
  by_cases hj : j = (L.length : Int) - 1
  · have e1 : (j == (L.length : Int) - 1) = true := by rw [hj]; simp
    have HR : Aside0 (endR q L j = none) := ⟨if_pos hj⟩
    clear hj
    go_enter Tryd.func67, Tryd.ntmps67
    go_wp2_with fail
    with_reducible refine HC.out.mono ?_
    rintro e w1 ⟨rfl, ⟨m, rfl⟩⟩
    go_wp2_with fail
    go_ret
    refine ⟨pw_below_drewN (Below.refl _ _) _, ?_⟩
    rw [HR.out]
    exact rfl
  · have e1 : (j == (L.length : Int) - 1) = false := beq_eq_false_iff_ne.mpr hj
    have HR : Aside0 (endR q L j = some (faultAt q L j 5)) := ⟨if_neg hj⟩
    clear hj
    go_enter Tryd.func67, Tryd.ntmps67
    go_wp2_with fail
    with_reducible refine HC.out.mono ?_
    rintro e w1 ⟨rfl, ⟨m, rfl⟩⟩
    go_wp2_with fail
    with_reducible refine (HE.out _).mono ?_
    rintro e w2 ⟨v, rfl, ⟨g, rfl, hp⟩, hb⟩
    have HP := Aside0.mk hp
    have HB := Aside0.mk hb
    clear hp hb
    go_wp2_with fail
    go_ret
    refine ⟨belowD HB.out, ?_⟩
    rw [HR.out]
    exact ⟨g, rfl, HP.out⟩
set_option maxRecDepth 100000 in
set_option maxHeartbeats 4000000 in
theorem inputError (q : ByteArray → ByteArray) (ad : Addr) (c : Nat) (L : List Int) (w : World) (hG : G q w) (hB : Buf w ad c L) :
    Calls Tryd.prog 74 #[.slice (some ad) L.length c] w fun e w' => ∃ r, InsR q L r ∧ ErrV w r e w' := by
  have hsm := hB.small
  have hpos := hB.pos
  obtain ⟨x, hr, hc⟩ := skipWs hB 0 (Int.le_refl _) (by omega)
  have hx0 := hr.le
  have hx1 := hr.lt
  have HC := Aside0.mk hc
  have HR := Aside0.mk hr
  have HV : Aside0 (∀ m, Calls Tryd.prog 86 #[.slice (some ad) L.length c, .int .i64 x, .int .i64 0] (w.drewN m) (Told (out q L .val [] x) (w.drewN m))) := ⟨fun m => skipValue q (gramSaid q) ad c L x 0 _ (hG.drewN m) (hB.drewN m) (by omega) hx1 (by omega) (Int.le_refl _)⟩
  have HG := Aside0.mk hG
  have HB := Aside0.mk hB
  clear hc hr hG hB
  go_enter Tryd.func74, Tryd.ntmps74
  go_wp2_with fail
  with_reducible refine HC.out.mono ?_
  rintro e w1 ⟨rfl, ⟨m, rfl⟩⟩
  go_wp2_with fail
  with_reducible refine (HV.out _).mono ?_
  rintro e w2 ⟨hb, ⟨d, hd, rfl⟩ | ⟨s, v, hs, ⟨g, rfl, hp⟩, rfl⟩⟩
  · have hb2 := belowD hb
    have hdr := out_range (q := q) hx0 hx1 hd
    obtain ⟨j, hrun, hv⟩ := validateEnd q ad c L d w2 (HG.out.below hb2) (HB.out.below hb2) (by omega) (by omega)
    have HRES : Aside0 (InsR q L (endR q L j)) := ⟨x, HR.out, .inr ⟨d, j, hd, by omega, hrun, rfl⟩⟩
    have HV2 := Aside0.mk hv
    have HB2 := Aside0.mk hb2
    clear hb hb2 hd hdr hrun hv
    generalize endR q L j = r at HRES HV2
    cases r with
    | none =>
      go_wp2_with fail
      with_reducible refine HV2.out.mono ?_
      rintro e w3 ⟨hb3, rfl⟩
      have HB3 := Aside0.mk (below_step HB2.out hb3)
      clear hb3
      go_wp2_with fail
      go_ret
      exact ⟨none, HRES.out, HB3.out, rfl⟩
    | some s =>
      go_wp2_with fail
      with_reducible refine HV2.out.mono ?_
      rintro e w3 ⟨hb3, g, rfl, hp⟩
      have HB3 := Aside0.mk (below_step HB2.out hb3)
      have HP := Aside0.mk hp
      clear hb3 hp
      go_wp2_with fail
      go_ret
      exact ⟨some s, HRES.out, HB3.out, g, rfl, HP.out⟩
  · have HRES : Aside0 (InsR q L (some s)) := ⟨x, HR.out, .inl ⟨s, hs, rfl⟩⟩
    have HB2 := Aside0.mk (belowD hb)
    have HP := Aside0.mk hp
    clear hb hp hs
    go_wp2_with fail
    go_ret
    exact ⟨some s, HRES.out, HB2.out, g, rfl, HP.out⟩
set_option maxRecDepth 100000 in
set_option maxHeartbeats 4000000 in
theorem syntaxErrorOf (q : ByteArray → ByteArray) (ad : Addr) (c : Nat) (L : List Int) (w : World) (hG : G q w) (hB : Buf w ad c L) :
    Calls Tryd.prog 50 #[.slice (some ad) L.length c] w fun e w' => ∃ r, InsR q L r ∧ ErrV w r e w' := by
  have HC := Aside0.mk (inputError q ad c L w hG hB)
  clear hG hB
  go_enter Tryd.func50, Tryd.ntmps50
  go_wp2_with fail
  with_reducible refine HC.out.mono ?_
  rintro e w2 ⟨r, hr, hb, hm⟩
  have HR := Aside0.mk hr
  have HB := Aside0.mk hb
  cases r with
  | none =>
    cases hm
    clear hr hb
    go_wp2_with fail
    go_ret
    exact ⟨none, HR.out, HB.out, rfl⟩
  | some s =>
    obtain ⟨g, rfl, hp⟩ := hm
    have HP := Aside0.mk hp
    clear hr hb hp
    go_wp2_with fail
    go_ret
    exact ⟨some s, HR.out, HB.out, g, rfl, HP.out⟩
/-- What the thin package tells of an error. -/
def faultO : Option SE → Value
  | none => .tuple #[noFault, .bool true]
  | some s => .tuple #[faultV s, .bool true]
theorem ins_va {q : ByteArray → ByteArray} {l : List Int} {s : SE} (hT : Txt (l ++ [0])) (h : InsR q (l ++ [0]) (some s)) : 0 ≤ s.va ∧ s.va ≤ 20000 := by
  have hsm := hT.small
  have hlen : (l ++ [(0 : Int)]).length = l.length + 1 := by rw [List.length_append]; rfl
  rcases ins_ff hT h with ⟨_, h2⟩ | ⟨k, e, m, s', _, h2, h3⟩
  · cases h2
  · cases h2
    obtain ⟨h1, _, _, _, h4, h5⟩ := h3
    cases e with
    | true => have := (h4 rfl).1; omega
    | false =>
      rcases (h5 rfl).2 with ⟨h6, _⟩ | ⟨h6, _⟩ <;> omega
/-- A block of six cells. -/
theorem six {w : World} {b : Nat} {v0 v1 v2 v3 v4 v5 : Value} {t : TypeId} (h : w.heap[b]? = some (.cells #[v0, v1, v2, v3, v4, v5] t (0, 0))) :
    w.cell? ⟨b, 0, none⟩ = some v0 ∧ w.cell? ⟨b, 1, none⟩ = some v1 ∧ w.cell? ⟨b, 2, none⟩ = some v2 ∧ w.cell? ⟨b, 3, none⟩ = some v3 ∧ w.cell? ⟨b, 4, none⟩ = some v4 ∧ w.cell? ⟨b, 5, none⟩ = some v5 ∧
    w.frozen? ⟨b, 0, none⟩ = false ∧ w.frozen? ⟨b, 1, none⟩ = false ∧ w.frozen? ⟨b, 2, none⟩ = false ∧ w.frozen? ⟨b, 3, none⟩ = false ∧ w.frozen? ⟨b, 4, none⟩ = false ∧ w.frozen? ⟨b, 5, none⟩ = false := by
  refine ⟨?_, ?_, ?_, ?_, ?_, ?_, ?_, ?_, ?_, ?_, ?_, ?_⟩ <;> simp [World.cell?, World.frozen?, h]
theorem bsix {B : Nat} {w W : World} {v0 v1 v2 v3 v4 v5 : Value} (h : Below B w W) : Below B w ((((((W.setCell ⟨B, 0, none⟩ v0).setCell ⟨B, 1, none⟩ v1).setCell ⟨B, 2, none⟩ v2).setCell ⟨B, 3, none⟩ v3).setCell ⟨B, 4, none⟩ v4).setCell ⟨B, 5, none⟩ v5) :=
  bset (bset (bset (bset (bset (bset h (Nat.le_refl _)) (Nat.le_refl _)) (Nat.le_refl _)) (Nat.le_refl _)) (Nat.le_refl _)) (Nat.le_refl _)
set_option maxRecDepth 100000 in
set_option maxHeartbeats 4000000 in
theorem implFault (q : ByteArray → ByteArray) (A : Option Addr) (c : Nat) (l : List Int) (w : World) (hG : G q w) (hC : Kd.C (Kd.int .u8) w A l.length l) (hcap : l.length ≤ c) (hb : ∀ y, y ∈ l → 0 ≤ y ∧ y < 256) (hl : l.length ≤ 10000) :
    Calls Tryd.prog 19 #[.slice A l.length c] w fun e w' => ∃ r, Txt (l ++ [0]) ∧ InsR q (l ++ [0]) r ∧ e = .returned (faultO r) ∧ Below w.heap.size w w' := by
  have HI : Aside0 (∀ W, Below w.heap.size w W → Calls Tryd.prog 51 #[.slice A l.length c] W fun e w' => ∃ ad cc L, e = .returned (.slice (some ad) L.length cc) ∧ Aside0 (L = l ++ [0]) ∧ Buf w' ad cc L ∧ Below W.heap.size W w') := ⟨fun W hbl => input A c l W (Kd.C_below hC hbl) hcap hb hl⟩
  have HG := Aside0.mk hG
  clear hC hb hG
  go_enter Tryd.func19, Tryd.ntmps19
  go_wp2_with fail
  with_reducible refine (HI.out _ (below_alloc (Below.refl _ _) _)).mono ?_
  rintro e w1 ⟨ad, cc, L, rfl, HL, hB1, hb1⟩
  have HSE := Aside0.mk (syntaxErrorOf q ad cc L w1 (HG.out.below (below_step (below_alloc (Below.refl _ w) _) hb1)) hB1)
  have HT : Aside0 (Txt (l ++ [0])) := ⟨by have := hB1.txt; rw [HL.out] at this; exact this⟩
  have HBB := Aside0.mk (below_step (below_alloc (Below.refl _ w) _) hb1)
  have HB10 := Aside0.mk hb1
  clear hB1 hb1
  go_wp2_with fail
  with_reducible refine HSE.out.mono ?_
  rintro e w2 ⟨r, hr, hb2, hm⟩
  rw [HL.out] at hr
  have HR := Aside0.mk hr
  have HBB2 := Aside0.mk (below_step HBB.out hb2)
  have HB20 := Aside0.mk (below_step HB10.out hb2)
  cases r with
  | none =>
    cases hm
    clear hr hb2
    go_wp2_with fail
    with_reducible refine (faultNil _).mono ?_
    rintro e w3 ⟨rfl, hb3⟩
    have HB3 := Aside0.mk (below_step HBB2.out hb3)
    have hblk := ((below_step HB20.out hb3).block w.heap.size (blk_lt' (blk_new w _))).trans (blk_new w _)
    obtain ⟨c0, c1, c2, c3, c4, c5, k0, k1, k2, k3, k4, k5⟩ := six hblk
    clear hb3 hblk
    unfold noFault
    go_wp2_with fail
    refine bodyPost_ret (v := faultO none) ?_ rfl ?_
    · unfold faultO noFault
      simp [results, Tryd.results19, go_sem, c0, c1, c2, c3, c4, c5]
    exact ⟨none, HT.out, HR.out, rfl, bsix HB3.out⟩
  | some s =>
    obtain ⟨g, rfl, hp⟩ := hm
    have hva := ins_va HT.out hr
    have HP := Aside0.mk hp
    clear hr hb2 hp
    go_wp2_with fail
    with_reducible refine (faultErr g s _ HP.out hva.1 hva.2).mono ?_
    rintro e w3 ⟨rfl, hb3⟩
    have HB3 := Aside0.mk (below_step HBB2.out hb3)
    have hblk := ((below_step HB20.out hb3).block w.heap.size (blk_lt' (blk_new w _))).trans (blk_new w _)
    obtain ⟨c0, c1, c2, c3, c4, c5, k0, k1, k2, k3, k4, k5⟩ := six hblk
    clear hb3 hblk
    unfold faultV
    go_wp2_with fail
    refine bodyPost_ret (v := faultO (some s)) ?_ rfl ?_
    · unfold faultO faultV
      simp [results, Tryd.results19, go_sem, c0, c1, c2, c3, c4, c5]
    exact ⟨some s, HT.out, HR.out, rfl, bsix HB3.out⟩
/-- Both faults: there is none, or they say the same. -/
theorem both {q : ByteArray → ByteArray} {l : List Int} {r : Option SE} (hT : Txt (l ++ [0])) (h : InsR q (l ++ [0]) r) :
    (ff q l .val [] 0 = none ∧ r = none) ∨ ∃ (k : Nat) (e : Bool) (m : ByteArray) (va : Int), ff q l .val [] 0 = some ((k : Int), e, m) ∧ r = some ⟨m, (if e = true then (k : Int) else (k : Int) + 1), e, va⟩ ∧ k ≤ l.length ∧ (e = true → va = 0 ∧ k = l.length) ∧
      (e = false → k < l.length ∧ ((va = 0 ∧ m ≠ badWords q (rd l k) wValue) ∨ (va = (k : Int) + 1 ∧ m = badWords q (rd l k) wValue))) := by
  rcases ins_ff hT h with h | ⟨k, e, m, s, h1, h2, h3⟩
  · exact .inl h
  · obtain ⟨msg, off, ae, va⟩ := s
    obtain ⟨h4, h5, h6, h7, h8, h9⟩ := h3
    dsimp only at h5 h6 h7 h8 h9
    subst h5 h6 h7
    exact .inr ⟨k, ae, msg, va, h1, h2, h4, h8, h9⟩
section
variable {q : ByteArray → ByteArray}
/-- The first fault, as the thin package and the reference tell it of a text that came in. -/
structure FaultCtx (q : ByteArray → ByteArray) (A : Option Addr) (c : Nat) (l : List Int) (w : World) : Prop where
  got : Calls Tryd.prog 19 #[.slice A l.length c] w fun e w' => ∃ r, Txt (l ++ [0]) ∧ InsR q (l ++ [0]) r ∧ e = .returned (faultO r) ∧ Below w.heap.size w w'
  due : ∀ W, Below w.heap.size w W → Calls Tryd.prog 20 #[.slice A l.length c] W fun e w' => e = .returned (ffV (ff q l .val [] 0)) ∧ Below W.heap.size W w'
theorem fctx (A : Option Addr) (c : Nat) (l : List Int) (w : World) (hG : G q w) (hC : Kd.C (Kd.int .u8) w A l.length l) (hcap : l.length ≤ c) (hb : ∀ y, y ∈ l → 0 ≤ y ∧ y < 256) (hl : l.length ≤ 10000) : FaultCtx q A c l w :=
  ⟨implFault q A c l w hG hC hcap hb hl, fun W hW => firstFault A c l W (hG.below hW) (Kd.C_below hC hW) hcap hb hl⟩
end
end Go.Proofs.YtfkagnpdapkaaaaDoor.Err
