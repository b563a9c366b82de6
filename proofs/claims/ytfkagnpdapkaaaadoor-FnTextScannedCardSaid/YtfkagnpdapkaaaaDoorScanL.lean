/- FnTextScanned: a text is told by its bytes, the place behind it, its first escape, and whether it has bytes of 128 or more. -/
import Derived.Test.YtfkagnpdapkaaaaDoorTextB
import Derived.Test.YtfkagnpdapkaaaaDoorQM1
import Derived.Deep.RegionLaw
import Derived.Laws.AppendOwnNone
import Derived.Lib.SliceRun
namespace Go.Proofs.YtfkagnpdapkaaaaDoor.Err
open Go.RowKit Go.Proofs.YtfkagnpdapkaaaaDoorW.PrintWords Go.Proofs.YtfkagnpdapkaaaaDoorW.PrintLast Go.Proofs.YtfkagnpdapkaaaaDoorW.PrintMore
open Go.Proofs.YtfkagnpdapkaaaaDoor.Dig Go.Proofs.YtfkagnpdapkaaaaDoor.Tab Go.Proofs.YtfkagnpdapkaaaaDoor.QF Go.Proofs.YtfkagnpdapkaaaaDoor.QL Go.Proofs.YtfkagnpdapkaaaaDoor.QM
set_option linter.unusedVariables false
/-- A block of five cells. -/
theorem five {w : World} {b : Nat} {v0 v1 v2 v3 v4 : Value} {t : TypeId} (h : w.heap[b]? = some (.cells #[v0, v1, v2, v3, v4] t (0, 0))) :
    w.cell? ⟨b, 0, none⟩ = some v0 ∧ w.cell? ⟨b, 1, none⟩ = some v1 ∧ w.cell? ⟨b, 2, none⟩ = some v2 ∧ w.cell? ⟨b, 3, none⟩ = some v3 ∧ w.cell? ⟨b, 4, none⟩ = some v4 ∧
    w.frozen? ⟨b, 0, none⟩ = false ∧ w.frozen? ⟨b, 1, none⟩ = false ∧ w.frozen? ⟨b, 2, none⟩ = false ∧ w.frozen? ⟨b, 3, none⟩ = false ∧ w.frozen? ⟨b, 4, none⟩ = false := by
  refine ⟨?_, ?_, ?_, ?_, ?_, ?_, ?_, ?_, ?_, ?_⟩ <;> simp [World.cell?, World.frozen?, h]
/-- A row from a base on stays when a block below is written. -/
theorem own_low {w : World} {base n k j : Nat} {e : TypeId} {v : Value} {xs : List Value} {u : Value} (h : w.ownsRow base e 1 v n xs) (hk : k < base) : (w.setCell ⟨k, j, none⟩ u).ownsRow base e 1 v n xs := by
  refine h.kept (row := some k) ⟨rfl, rfl, rfl, by simp, fun m _ hm => heap_setCell_other w ⟨k, j, none⟩ m u (fun e => hm (by rw [e]))⟩ ?_
  cases hv : v.ownBlock with
  | none => exact .inl rfl
  | some m =>
    refine .inr fun e => ?_
    have h2 := h.lt m hv
    cases e
    omega
/-- append onto a row of the call's own, as one step of a region. -/
theorem step_own {P : Program} {ops : Array Oper} {o : Oper} {a : Act} {w : World} {K : Act → World → Prop} {Q : Exit → Act → World → Prop} {E : Prop}
    (hg : o.guard = none) (s x : Operand) (t : TypeId) (hop : o.op = Op.call { callee := Callee.builtin Builtin.append, args := #[s, x], argTypes := #[t, t] })
    (base : Nat) (e : TypeId) (i : TypeInfo) (z : Value) (size bytes : Nat) (ht : P.underlying t = some (.slice e)) (hi : P.info? e = some i) (hz : i.zero = some z)
    (hsize : i.size = size) (hby : i.bytes = bytes) (hzs : z.cells.size = size) (hsz : 0 < size)
    (v : Value) (n : Nat) (xs : List Value) (hs : a.eval s = v) (hown : w.ownsRow base e size v n xs)
    (ad : Addr) (m c : Nat) (news : List Value) (hx : a.eval x = .slice (some ad) m c) (hl : news.length = m * size) (hnews : ∀ j u, news[j]? = some u → w.cell? (ad.add j) = some u) (h1 : ∀ u ∈ news, u.oneCell' = true)
    (h63 : n + m ≤ maxLen) (hbytes : (n + m) * bytes ≤ 140737488355328) (hbase : base ≤ w.heap.size)
    (h : ∀ v' w', w'.ownsRow base e size v' (n + m) (xs ++ news) → w.grownBy w' v.ownBlock → K (a.put o.dst v') w') :
    if Region.wanted o (yielded ops a.tmps) = true then Oper.wp P o a w K Q else E := by
  have hw : Region.wanted o (yielded ops a.tmps) = true := by simp [Region.wanted, hg]
  rw [if_pos hw]
  exact wp_append_own w s x t hop base e i z size bytes ht hi hz hsize hby hzs hsz v n xs hs hown ad m c news hx hl hnews h1 h63 hbytes hbase fun v' w' h2 h3 _ => h v' w' h2 h3
theorem step_none {P : Program} {ops : Array Oper} {o : Oper} {a : Act} {w : World} {K : Act → World → Prop} {Q : Exit → Act → World → Prop} {E : Prop}
    (hg : o.guard = none) (s x : Operand) (t : TypeId) (hop : o.op = Op.call { callee := Callee.builtin Builtin.append, args := #[s, x], argTypes := #[t, t] })
    (base : Nat) (e : TypeId) (i : TypeInfo) (size : Nat) (ht : P.underlying t = some (.slice e)) (hi : P.info? e = some i)
    (v : Value) (n : Nat) (xs : List Value) (hs : a.eval s = v) (hown : w.ownsRow base e size v n xs) (hx : a.eval x = .slice none 0 0) (h : K (a.put o.dst v) w) :
    if Region.wanted o (yielded ops a.tmps) = true then Oper.wp P o a w K Q else E := by
  have hw : Region.wanted o (yielded ops a.tmps) = true := by simp [Region.wanted, hg]
  rw [if_pos hw]
  have hrun := run_append_owned_none (P := P) (w := w) base t o.type e i size ht hi v n xs hown
  unfold Oper.wp
  simp [execOp, hop, resolve, invoke, builtin, hs, hx, hrun, Result.andThen]
  exact h
section
variable {q : ByteArray → ByteArray}
/-- What ScanString tells. -/
def ScanSaid (q : ByteArray → ByteArray) (ad : Addr) (c : Nat) (L : List Int) (cur : Int) (w : World) (e : Ending) (w' : World) : Prop :=
  Below w.heap.size w w' ∧ ((∃ d fe hi, Ends q L .text (cur + 1) d ∧ cur + 1 < d ∧ d < L.length ∧ FirstEsc L (cur + 1) (d - 1) fe ∧ (hi = true ↔ ∃ k, cur + 1 ≤ k ∧ k < d - 1 ∧ 128 ≤ rd L k) ∧
      e = .returned (.tuple #[.slice (some (ad.add (cur + 1).toNat)) ((d - 1).toNat - (cur + 1).toNat) (c - (cur + 1).toNat), .int .i64 d, .int .i64 fe, .bool hi, .nilIface])) ∨
    ∃ s g s', Bad q L .text (cur + 1) s ∧ PT w' g s' ∧ e = .returned (.tuple #[.slice none 0 0, .int .i64 0, .int .i64 0, .bool false, .iface 86 (.pointer (some ⟨g, 0, none⟩))]))
set_option maxRecDepth 100000 in
set_option maxHeartbeats 4000000 in
theorem door66 (ad : Addr) (c : Nat) (L : List Int) (x : Int) (w : World) (hG : G q w) (hB : Buf w ad c L) (h0 : 0 ≤ x) (h1 : x < L.length) (h34 : rd L x = 34) :
    Calls Tryd.prog 66 #[.slice (some ad) L.length c, .int .i64 x] w (ScanSaid q ad c L x w) := by
  have HC : Aside0 (∀ O : Obj, Calls Tryd.prog 89 #[.pointer (some ⟨w.heap.size, 0, none⟩), .slice (some ad) L.length c, .int .i64 x] (w.alloc O) (ScanAns q ad c L x (w.alloc O))) := ⟨fun O => scanString q _ ad c L x _ (hG.below (below_alloc (Below.refl _ _) O)) (hB.below (below_alloc (Below.refl _ _) O)) h0 h1 h34⟩
  clear hG hB
  go_enter Tryd.func66, Tryd.ntmps66
  go_wp2_with fail
  with_reducible refine (HC.out _).mono ?_
  rintro e w2 ⟨hb, ⟨d, fe, hi, hd, h2, h3, h4, h5, rfl⟩ | ⟨s, v, hs, ⟨s', g, rfl, hp⟩, rfl⟩⟩
  · have HB2 := Aside0.mk (below_step (below_alloc (Below.refl w.heap.size w) _) hb)
    have HD := Aside0.mk (And.intro hd (And.intro h2 (And.intro h3 (And.intro h4 h5))))
    clear hb hd h2 h3 h4 h5
    go_wp2_with fail
    go_region
    go_wp2_with fail
    refine bodyPost_ret (v := .tuple #[.slice (some (ad.add (x + 1).toNat)) ((d - 1).toNat - (x + 1).toNat) (c - (x + 1).toNat), .int .i64 d, .int .i64 fe, .bool hi, .nilIface]) ?_ rfl ?_
    · simp [results, Tryd.results66, go_sem]
    obtain ⟨a1, a2, a3, a4, a5⟩ := HD.out
    exact ⟨(below_alloc HB2.out _).drew, .inl ⟨d, fe, hi, a1, a2, a3, a4, a5, rfl⟩⟩
  · have HB2 := Aside0.mk (below_step (below_alloc (Below.refl w.heap.size w) _) hb)
    have HS := Aside0.mk hs
    have HP := Aside0.mk hp
    clear hb hs hp
    go_wp2_with fail
    go_region
    go_wp2_with fail
    refine bodyPost_ret (v := .tuple #[.slice none 0 0, .int .i64 0, .int .i64 0, .bool false, .iface 86 (.pointer (some ⟨g, 0, none⟩))]) ?_ rfl ?_
    · simp [results, Tryd.results66, go_sem]
    exact ⟨(below_alloc HB2.out _).drew, .inr ⟨s, g, s', HS.out, (HP.out.below (below_alloc (Below.refl _ _) _).drew), rfl⟩⟩
/-- What the thin package tells of a text that is scanned. -/
def ScanTold (O : Out) (l : List Int) (x : Int) (e : Ending) (w' : World) : Prop :=
  (∃ d fe hi A c S, O = .done d ∧ x + 1 < d ∧ d ≤ (l.length : Int) ∧ S = (l.take (d - 1).toNat).drop (x + 1).toNat ∧ Kd.C (Kd.int .u8) w' A S.length S ∧ S.length ≤ c ∧ FirstEsc (l ++ [0]) (x + 1) (d - 1) fe ∧ (hi = true ↔ ∃ k, x + 1 ≤ k ∧ k < d - 1 ∧ 128 ≤ rd (l ++ [0]) k) ∧
    e = .returned (.tuple #[.agg #[.slice A S.length c, .bool false, .int .i64 d, .int .i64 fe, .bool hi], .agg #[.bool false, .int .i64 0, .string ByteArray.empty, .bool false, .bool false, .int .i64 0], .bool true])) ∨
  ∃ s g off msg ae sb sa, O = .fault s ∧ e = .returned (.tuple #[.agg #[.slice (some ⟨g, 0, none⟩) 0 0, .bool true, .int .i64 0, .int .i64 0, .bool false], .agg #[.bool true, .int .i64 off, .string msg, .bool ae, .bool sb, .int .i64 sa], .bool true])
set_option maxRecDepth 100000 in
set_option maxHeartbeats 8000000 in
theorem impl39 (A : Option Addr) (c : Nat) (l : List Int) (x : Int) (w : World) (hG : G q w) (hC : Kd.C (Kd.int .u8) w A l.length l) (hcap : l.length ≤ c) (hb : ∀ y, y ∈ l → 0 ≤ y ∧ y < 256) (hl : l.length ≤ 10000) (h0 : 0 ≤ x) (h1 : x < l.length) (hq : rd l x = 34) :
    Calls Tryd.prog 39 #[.slice A l.length c, .int .i64 x] w fun e w' => ScanTold (out q (l ++ [0]) .val [] x) l x e w' ∧ Below w.heap.size w w' := by
  have HI : Aside0 (∀ W, Below w.heap.size w W → Calls Tryd.prog 51 #[.slice A l.length c] W fun e w' => ∃ ad cc L, e = .returned (.slice (some ad) L.length cc) ∧ Aside0 (L = l ++ [0]) ∧ Buf w' ad cc L ∧ Below W.heap.size W w') := ⟨fun W hbl => input A c l W (Kd.C_below hC hbl) hcap hb hl⟩
  have HLEN : Aside0 (∀ L, L = l ++ [0] → (L.length : Int) = l.length + 1 ∧ rd L x = 34) := ⟨fun L h => ⟨by rw [h, List.length_append]; rfl, by obtain ⟨n, rfl⟩ := Int.eq_ofNat_of_zero_le h0; rw [h, rd_app l [0] n (by omega)]; exact hq⟩⟩
  have HG := Aside0.mk hG
  clear hC hb hG
  go_enter Tryd.func39, Tryd.ntmps39
  go_wp2_with fail
  with_reducible refine (HI.out _ (below_alloc (below_alloc (Below.refl _ _) _) _)).mono ?_
  rintro e w1 ⟨ad, cc, L, rfl, HL, hB1, hb1⟩
  have HT := Aside0.mk hB1.txt
  have HLL := Aside0.mk (HLEN.out L HL.out)
  have HST := Aside0.mk (door66 (q := q) ad cc L x w1 (HG.out.below (below_step (below_alloc (below_alloc (Below.refl _ w) _) _) hb1)) hB1 h0 (by have := HLL.out.1; omega) HLL.out.2)
  have HBB := Aside0.mk (below_step (below_alloc (below_alloc (Below.refl _ w) _) _) hb1)
  have HB10 := Aside0.mk hb1
  have HBUF := Aside0.mk hB1
  clear hB1 hb1
  go_wp2_with fail
  with_reducible refine HST.out.mono ?_
  rintro e w2 ⟨hb2, ⟨d, fe, hi, hd, h2, h3, h4, h5, rfl⟩ | ⟨s, g, s', hs, hp, rfl⟩⟩
  · have HBB2 := Aside0.mk (below_step HBB.out hb2)
    have HB20 := Aside0.mk (below_step HB10.out hb2)
    have HBUF2 := HBUF.out.below hb2
    have hll := HLL.out.1
    obtain ⟨m, hm⟩ : ∃ m, m = (d - 1).toNat - (x + 1).toNat := ⟨_, rfl⟩
    obtain ⟨c2, hc2⟩ : ∃ c2, c2 = cc - (x + 1).toNat := ⟨_, rfl⟩
    obtain ⟨ad2, had2⟩ : ∃ ad2, ad2 = ad.add (x + 1).toNat := ⟨_, rfl⟩
    obtain ⟨S, hS⟩ : ∃ S, S = (l.take (d - 1).toNat).drop (x + 1).toNat := ⟨_, rfl⟩
    have hSm : S.length = m := by rw [hS, List.length_drop, List.length_take]; omega
    have hnews : ∀ j u, (nums .u8 S)[j]? = some u → w2.cell? (ad2.add j) = some u := fun j u hu => by
      unfold nums at hu
      rw [List.getElem?_map] at hu
      obtain ⟨y, hy, rfl⟩ := Option.map_eq_some_iff.1 hu
      have hj : j < S.length := (List.getElem?_eq_some_iff.1 hy).1
      have h7 := HBUF2.at_ (x + 1 + j) (by omega) (by omega)
      rw [had2, add_add, show (x + 1).toNat + j = (x + 1 + j).toNat by omega, h7]
      congr 2
      rw [hS, List.getElem?_drop, List.getElem?_take, if_pos (by omega)] at hy
      have e : rd L (x + 1 + j) = rd l (x + 1 + j) := by
        rw [HL.out, show x + 1 + (j : Int) = (((x + 1).toNat + j : Nat) : Int) by omega]
        exact rd_app l [0] _ (by omega)
      rw [e]
      unfold rd
      rw [show (x + 1 + (j : Int)).toNat = (x + 1).toNat + j by omega, List.getD_eq_getElem?_getD, hy]
      rfl
    have HN := Aside0.mk hnews
    have HSM := Aside0.mk hSm
    have HSS := Aside0.mk hS
    have HSAID := Aside0.mk (And.intro hd (And.intro h2 (And.intro h3 (And.intro h4 h5))))
    have hmm : m ≤ 10000 := by omega
    rw [← hm, ← hc2, ← had2]
    clear hb2 hd h2 h3 h4 h5 hnews hSm hS hm hc2 had2 HBUF2 hll
    go_wp2_with fail
    with_reducible refine (faultNil _).mono ?_
    rintro e w3 ⟨rfl, hb3⟩
    have HB3 : Aside0 (Below w.heap.size w w3) := ⟨below_step HBB2.out hb3⟩
    have HB30 := Aside0.mk (below_step HB20.out hb3)
    have HN3 : Aside0 (∀ W, Below w3.heap.size w3 W → ∀ j u, (nums .u8 S)[j]? = some u → W.cell? (ad2.add j) = some u) := ⟨fun W hW j u hu => pw_cell_below (below_step hb3 hW) (HN.out j u hu)⟩
    clear hb3
    unfold noFault
    have HBK : Aside0 (∀ W w', Below (w3.alloc (.cells #[.bool false, .int .i64 0, .string ByteArray.empty, .bool false, .bool false, .int .i64 0] 24)).heap.size (w3.alloc (.cells #[.bool false, .int .i64 0, .string ByteArray.empty, .bool false, .bool false, .int .i64 0] 24)) W → W.grownBy w' (some (w3.heap.size + 1)) → w'.heap[w.heap.size]? = some (.cells #[.slice none 0 0, .bool false, .int .i64 0, .int .i64 0, .bool false] 57 (0, 0)) ∧ w'.heap[w.heap.size + 1]? = some (.cells #[.bool false, .int .i64 0, .string ByteArray.empty, .bool false, .bool false, .int .i64 0] 24 (0, 0)) ∧ w'.heap[w3.heap.size]? = some (.cells #[.bool false, .int .i64 0, .string ByteArray.empty, .bool false, .bool false, .int .i64 0] 24 (0, 0)) ∧ Below w.heap.size w w') := ⟨fun W w' hW hg => by
      have hsz := HB30.out.size
      simp at hsz
      have hsz2 := hW.size
      simp at hsz2
      have hk : ∀ k, k < w3.heap.size + 1 → w'.heap[k]? = (w3.alloc (.cells #[.bool false, .int .i64 0, .string ByteArray.empty, .bool false, .bool false, .int .i64 0] 24)).heap[k]? := fun k hk => (hg.block k (by omega) (by simp; omega)).trans (hW.block k (by simp; omega))
      refine ⟨?_, ?_, ?_, ?_⟩
      · rw [hk _ (by omega), Below.heap_alloc _ _ _ (by omega), HB30.out.block _ (by simp; omega), Below.heap_alloc _ _ _ (by simp)]
        exact blk_new w _
      · rw [hk _ (by omega), Below.heap_alloc _ _ _ (by omega), HB30.out.block _ (by simp)]
        have e : (w.alloc (.cells #[.slice none 0 0, .bool false, .int .i64 0, .int .i64 0, .bool false] 57)).heap.size = w.heap.size + 1 := by simp
        rw [← e]
        exact blk_new _ _
      · rw [hk _ (by omega)]
        exact blk_new w3 _
      · exact (below_step (below_alloc HB3.out _) hW).grown hg (by omega) (fun k hk => by cases hk; omega)⟩
    go_upto_region 3 with (fail)
    obtain ⟨i0, hi0, hz0, hz1, hz2⟩ := info_parts QF.info5
    have HSZ : Aside0 (w.heap.size + 2 ≤ w3.heap.size) := ⟨by have := HB30.out.size; simp at this; omega⟩
    have HOWN : Aside0 (((w3.alloc (.cells #[.bool false, .int .i64 0, .string ByteArray.empty, .bool false, .bool false, .int .i64 0] 24)).alloc (.cells #[] 5)).drew.ownsRow (w.heap.size + 2) 5 1 (.slice (some ⟨w3.heap.size + 1, 0, none⟩) 0 0) 0 []) := ⟨by
      have h := World.ownsRow_made (base := w.heap.size + 2) (e := 5) (size := 1) (w3.alloc (.cells #[.bool false, .int .i64 0, .string ByteArray.empty, .bool false, .bool false, .int .i64 0] 24)) #[] 0 (by have := HSZ.out; simp; omega) (by decide) rfl
      have e : (w3.alloc (.cells #[.bool false, .int .i64 0, .string ByteArray.empty, .bool false, .bool false, .int .i64 0] 24)).heap.size = w3.heap.size + 1 := by simp
      rw [e] at h
      exact h⟩
    have hs1 := HSZ.out
    have hq1 : (w3.heap.size == w.heap.size) = false := beq_eq_false_iff_ne.mpr (by omega)
    have hq2 : (w.heap.size == w3.heap.size) = false := beq_eq_false_iff_ne.mpr (by omega)
    have hq3 : (w3.heap.size == w.heap.size + 1) = false := beq_eq_false_iff_ne.mpr (by omega)
    have hq4 : (w.heap.size + 1 == w3.heap.size) = false := beq_eq_false_iff_ne.mpr (by omega)
    have hnil : ∀ W, Sem.run Tryd.prog (binOp .eql 22 (.slice (some ad2) m c2) (.slice none 0 0)) W = .ok (.bool false) W := fun W => Lib.run_eql_slice_nil W 22 5 (some ad2) m c2 0 0 Tryd.underlying22
    go_region_law ((refine step_own rfl (.tmp 29) (.tmp 30) 22 rfl (w.heap.size + 2) 5 i0 (.int .u8 0) 1 1 Tryd.underlying22 hi0 hz0 hz1 hz2 rfl (by decide) (.slice (some ⟨w3.heap.size + 1, 0, none⟩) 0 0) 0 [] (by simp [Act.eval]) ?_ ad2 m c2 (nums .u8 S) (by simp [Act.eval]) ?_ ?_ ?_ ?_ ?_ ?_ ?_); (exact HOWN.out); (rw [nums_length, HSM.out]; simp); (exact HN3.out _ (below_alloc (below_alloc (Below.refl _ _) _) _).drew); (exact fun u hu => nums_cell hu); (unfold maxLen; omega); omega; (have := HSZ.out; simp; omega); (intro v9 w9 hown hgrow; obtain ⟨A9, c9, rfl, hrd9⟩ := own_reads hown; obtain ⟨b1, b2, b3, hB9⟩ := HBK.out _ w9 (below_alloc (Below.refl _ _) _).drew hgrow; have HO9 := Aside0.mk hown; have HB9 := Aside0.mk hB9; obtain ⟨p0, p1, p2, p3, p4, q0, q1, q2, q3, q4⟩ := five b1; obtain ⟨r0, r1, r2, r3, r4, r5, s0, s1, s2, s3, s4, s5⟩ := six b2; obtain ⟨t0, t1, t2, t3, t4, t5, u0, u1, u2, u3, u4, u5⟩ := six b3; clear hown hgrow hB9 hrd9 b1 b2 b3))
    all_goals
      go_wp2_with fail
      refine bodyPost_ret (v := .tuple #[.agg #[.slice A9 m c9, .bool false, .int .i64 d, .int .i64 fe, .bool hi], .agg #[.bool false, .int .i64 0, .string ByteArray.empty, .bool false, .bool false, .int .i64 0], .bool true]) ?_ rfl ?_
      · simp [results, Tryd.results39, go_sem, p0, p1, p2, p3, p4, r0, r1, r2, r3, r4, r5]
      obtain ⟨a1, a2, a3, a4, a5⟩ := HSAID.out
      have hown := HO9.out
      rw [Nat.zero_add, List.nil_append] at hown
      have hcap9 := own_le hown
      refine ⟨.inl ⟨d, fe, hi, A9, c9, S, ?_, a2, ?_, HSS.out, ?_, ?_, ?_, ?_, ?_⟩, ?_⟩
      · rw [← HL.out]; exact ends_done HT.out h0 (by have := HLL.out.1; omega) HLL.out.2 a1
      · have := HLL.out.1; omega
      · rw [HSM.out]
        refine Kd.C_of_reads (d := (0 : Int)) (h1 := fun _ => rfl) (own_reads' (base := w.heap.size + 2) (e := 5) (c := c9) ?_)
        repeat (with_reducible refine own_low ?_ (by omega))
        exact hown
      · rw [HSM.out]; exact hcap9
      · rw [← HL.out]; exact a4
      · rw [← HL.out]; exact a5
      · rw [HSM.out]
      · repeat (with_reducible refine bset ?_ (by omega))
        exact HB9.out
  · have HBB2 := Aside0.mk (below_step HBB.out hb2)
    have HB20 := Aside0.mk (below_step HB10.out hb2)
    have HRES : Aside0 (out q (l ++ [0]) .val [] x = .fault s) := ⟨by rw [← HL.out]; exact bad_fault HT.out h0 (by have := HLL.out.1; omega) HLL.out.2 hs⟩
    have HP := Aside0.mk hp
    clear hb2 hs hp
    go_wp2_with fail
    with_reducible refine (faultAny g s' _ HP.out).mono ?_
    rintro e w3 ⟨⟨sa, sb, rfl⟩, hb3⟩
    have HB3 : Aside0 (Below w.heap.size w w3) := ⟨below_step HBB2.out hb3⟩
    have HB30 := Aside0.mk (below_step HB20.out hb3)
    clear hb3
    have HBK : Aside0 (∀ W, Below (w3.alloc (.cells #[.bool true, .int .i64 s'.off, .string s'.msg, .bool s'.atEnd, .bool sb, .int .i64 sa] 24)).heap.size (w3.alloc (.cells #[.bool true, .int .i64 s'.off, .string s'.msg, .bool s'.atEnd, .bool sb, .int .i64 sa] 24)) W → W.heap[w.heap.size]? = some (.cells #[.slice none 0 0, .bool false, .int .i64 0, .int .i64 0, .bool false] 57 (0, 0)) ∧ W.heap[w.heap.size + 1]? = some (.cells #[.bool false, .int .i64 0, .string ByteArray.empty, .bool false, .bool false, .int .i64 0] 24 (0, 0)) ∧ W.heap[w3.heap.size]? = some (.cells #[.bool true, .int .i64 s'.off, .string s'.msg, .bool s'.atEnd, .bool sb, .int .i64 sa] 24) ∧ Below w.heap.size w W) := ⟨fun W hW => by
      have hsz := HB30.out.size
      simp at hsz
      have hk : ∀ k, k < w3.heap.size + 1 → W.heap[k]? = (w3.alloc (.cells #[.bool true, .int .i64 s'.off, .string s'.msg, .bool s'.atEnd, .bool sb, .int .i64 sa] 24)).heap[k]? := fun k hk => hW.block k (by simp; omega)
      refine ⟨?_, ?_, ?_, ?_⟩
      · rw [hk _ (by omega), Below.heap_alloc _ _ _ (by omega), HB30.out.block _ (by simp; omega), Below.heap_alloc _ _ _ (by simp)]
        exact blk_new w _
      · rw [hk _ (by omega), Below.heap_alloc _ _ _ (by omega), HB30.out.block _ (by simp)]
        have e : (w.alloc (.cells #[.slice none 0 0, .bool false, .int .i64 0, .int .i64 0, .bool false] 57)).heap.size = w.heap.size + 1 := by simp
        rw [← e]
        exact blk_new _ _
      · rw [hk _ (by omega)]
        exact blk_new w3 _
      · exact below_step (below_alloc HB3.out _) hW⟩
    go_upto_region 3 with (fail)
    obtain ⟨i0, hi0, hz0, hz1, hz2⟩ := info_parts QF.info5
    have HSZ : Aside0 (w.heap.size + 2 ≤ w3.heap.size) := ⟨by have := HB30.out.size; simp at this; omega⟩
    have HOWN : Aside0 (((w3.alloc (.cells #[.bool true, .int .i64 s'.off, .string s'.msg, .bool s'.atEnd, .bool sb, .int .i64 sa] 24)).alloc (.cells #[] 5)).drew.ownsRow (w.heap.size + 2) 5 1 (.slice (some ⟨w3.heap.size + 1, 0, none⟩) 0 0) 0 []) := ⟨by
      have h := World.ownsRow_made (base := w.heap.size + 2) (e := 5) (size := 1) (w3.alloc (.cells #[.bool true, .int .i64 s'.off, .string s'.msg, .bool s'.atEnd, .bool sb, .int .i64 sa] 24)) #[] 0 (by have := HSZ.out; simp; omega) (by decide) rfl
      have e : (w3.alloc (.cells #[.bool true, .int .i64 s'.off, .string s'.msg, .bool s'.atEnd, .bool sb, .int .i64 sa] 24)).heap.size = w3.heap.size + 1 := by simp
      rw [e] at h
      exact h⟩
    obtain ⟨b1, b2, b3, hB9⟩ := HBK.out ((w3.alloc (.cells #[.bool true, .int .i64 s'.off, .string s'.msg, .bool s'.atEnd, .bool sb, .int .i64 sa] 24)).alloc (.cells #[] 5)) (below_alloc (Below.refl _ _) _)
    have HB9 := Aside0.mk hB9
    obtain ⟨p0, p1, p2, p3, p4, q0, q1, q2, q3, q4⟩ := five b1
    obtain ⟨r0, r1, r2, r3, r4, r5, s0, s1, s2, s3, s4, s5⟩ := six b2
    have hs1 := HSZ.out
    have hq1 : (w3.heap.size == w.heap.size) = false := beq_eq_false_iff_ne.mpr (by omega)
    have hq2 : (w.heap.size == w3.heap.size) = false := beq_eq_false_iff_ne.mpr (by omega)
    have hq3 : (w3.heap.size == w.heap.size + 1) = false := beq_eq_false_iff_ne.mpr (by omega)
    have hq4 : (w.heap.size + 1 == w3.heap.size) = false := beq_eq_false_iff_ne.mpr (by omega)
    have hnil : ∀ W, Sem.run Tryd.prog (binOp .eql 22 (.slice none 0 0) (.slice none 0 0)) W = .ok (.bool true) W := fun W => Lib.run_eql_slice_nil W 22 5 none 0 0 0 0 Tryd.underlying22
    clear hB9 b1 b2 b3
    go_region_law ((refine step_none rfl (.tmp 29) (.tmp 30) 22 rfl (w.heap.size + 2) 5 i0 1 Tryd.underlying22 hi0 (.slice (some ⟨w3.heap.size + 1, 0, none⟩) 0 0) 0 [] (by simp [Act.eval]) ?_ (by simp [Act.eval]) ?_); (exact HOWN.out))
    all_goals
      go_wp2_with fail
      refine bodyPost_ret (v := .tuple #[.agg #[.slice (some ⟨w3.heap.size + 1, 0, none⟩) 0 0, .bool true, .int .i64 0, .int .i64 0, .bool false], .agg #[.bool true, .int .i64 s'.off, .string s'.msg, .bool s'.atEnd, .bool sb, .int .i64 sa], .bool true]) ?_ rfl ?_
      · simp [results, Tryd.results39, go_sem, p0, p1, p2, p3, p4, r0, r1, r2, r3, r4, r5]
      refine ⟨.inr ⟨s, _, _, _, _, sb, sa, HRES.out, rfl⟩, Below.drew ?_⟩
      repeat (with_reducible refine bset ?_ (by omega))
      exact HB9.out
theorem firstOf_f (S : List Int) (hS : S.length ≤ 10000) (r : Int) : ∀ n : Nat, ∀ c : Int, 0 ≤ c → c ≤ S.length → (S.length : Int) - c = n → ((r = -1 ∧ ∀ k, c ≤ k → k < S.length → rd S k ≠ 92) ∨ (c ≤ r ∧ r < S.length ∧ rd S r = 92 ∧ ∀ k, c ≤ k → k < r → rd S k ≠ 92)) → ∃ k, spec_FirstOf.l0 k 92 S (S.length : Int) c = some r := by
  intro n
  induction n with
  | zero =>
    intro c h0 h1 hn h
    refine ⟨1, ?_⟩
    unfold spec_FirstOf.l0
    rw [if_neg (by omega)]
    rcases h with ⟨rfl, _⟩ | ⟨h2, h3, _⟩
    · rfl
    · omega
  | succ n ih =>
    intro c h0 h1 hn h
    by_cases hc : rd S c = 92
    · refine ⟨1, ?_⟩
      unfold spec_FirstOf.l0
      rw [if_pos (by omega), if_pos h0, if_pos (by omega), if_pos hc]
      rcases h with ⟨_, h2⟩ | ⟨h2, h3, h4, h5⟩
      · exact absurd hc (h2 c (Int.le_refl _) (by omega))
      · by_cases e : c = r
        · rw [e]
        · exact absurd hc (h5 c (Int.le_refl _) (by omega))
    · obtain ⟨k, hk⟩ := ih (c + 1) (by omega) (by omega) (by omega) (by
        rcases h with ⟨h1, h2⟩ | ⟨h2, h3, h4, h5⟩
        · exact .inl ⟨h1, fun k h3 h4 => h2 k (by omega) h4⟩
        · refine .inr ⟨?_, h3, h4, fun k h6 h7 => h5 k (by omega) h7⟩
          by_cases e : c = r
          · rw [e] at hc; exact absurd h4 hc
          · omega)
      refine ⟨k + 1, ?_⟩
      unfold spec_FirstOf.l0
      rw [if_pos (by omega), if_pos h0, if_pos (by omega), if_neg hc, show wrap64 (c + 1) = c + 1 by unfold wrap64; omega]
      exact hk
theorem isForeign_f (S : List Int) (hS : S.length ≤ 10000) (b : Bool) : ∀ n : Nat, ∀ c : Int, 0 ≤ c → c ≤ S.length → (S.length : Int) - c = n → (b = true ↔ ∃ k, c ≤ k ∧ k < S.length ∧ 128 ≤ rd S k) → ∃ k, spec_IsForeign.l0 k S (S.length : Int) c = some b := by
  intro n
  induction n with
  | zero =>
    intro c h0 h1 hn h
    refine ⟨1, ?_⟩
    unfold spec_IsForeign.l0
    rw [if_neg (by omega)]
    cases b with
    | true => obtain ⟨k, h2, h3, _⟩ := h.1 rfl; omega
    | false => rfl
  | succ n ih =>
    intro c h0 h1 hn h
    by_cases hc : rd S c ≥ 128
    · have hb := h.2 ⟨c, Int.le_refl _, by omega, hc⟩
      subst hb
      refine ⟨1, ?_⟩
      unfold spec_IsForeign.l0
      rw [if_pos (by omega), if_pos h0, if_pos (by omega), if_pos hc]
    · obtain ⟨k, hk⟩ := ih (c + 1) (by omega) (by omega) (by omega) (h.trans ⟨fun ⟨k, h2, h3, h4⟩ => ⟨k, by by_cases e : k = c; (rw [e] at h4; exact absurd h4 hc); omega, h3, h4⟩, fun ⟨k, h2, h3, h4⟩ => ⟨k, by omega, h3, h4⟩⟩)
      refine ⟨k + 1, ?_⟩
      unfold spec_IsForeign.l0
      rw [if_pos (by omega), if_pos h0, if_pos (by omega), if_neg hc, show wrap64 (c + 1) = c + 1 by unfold wrap64; omega]
      exact hk
set_option maxRecDepth 100000 in
set_option maxHeartbeats 8000000 in
theorem scannedLaw (A : Option Addr) (c : Nat) (l : List Int) (i : Int) (w : World) (hG : G q w) (hC : Kd.C (Kd.int .u8) w A l.length l) (hcap : l.length ≤ c) (hb : ∀ y, y ∈ l → 0 ≤ y ∧ y < 256) (hm : l.length ≤ maxLen) (hi : -9223372036854775808 ≤ i ∧ i ≤ 9223372036854775807) :
    Calls Tryd.prog 13 #[.slice A l.length c, .int .i64 i] w fun e w' => e = .returned (.bool true) ∧ Below w.heap.size w w' := by
  unfold maxLen at hm
  have HF : Aside0 (∀ W, Below w.heap.size w W → Calls Tryd.prog 24 #[.slice A l.length c, .int .i64 i] W fun e w' => e = .returned (.bool (decide (l.length ≤ 10000 ∧ 0 ≤ i ∧ i ≤ l.length))) ∧ Drawn0 W w') := ⟨fun W hW => fitsB A c l i W (Kd.C_below hC hW) hcap⟩
  have HC := Aside0.mk hC
  have HBY := Aside0.mk hb
  have HG := Aside0.mk hG
  clear hC hb hG
  by_cases z1 : (l.length : Int) > 2147483647
  · go_enter Tryd.func13, Tryd.ntmps13
    go_wp2_with fail
    all_goals
      go_ret
      exact ⟨rfl, Below.refl _ _⟩
  by_cases z2 : l.length ≤ 10000 ∧ 0 ≤ i ∧ i ≤ l.length
  rotate_left
  · have HF2 : Aside0 (∀ W, Below w.heap.size w W → Calls Tryd.prog 24 #[.slice A l.length c, .int .i64 i] W fun e w' => e = .returned (.bool false) ∧ Drawn0 W w') := ⟨fun W hW => by have := HF.out W hW; rw [decide_eq_false z2] at this; exact this⟩
    clear z2
    go_enter Tryd.func13, Tryd.ntmps13
    go_wp2_with fail
    with_reducible refine (HF2.out _ (Below.refl _ _)).mono ?_
    rintro e w1 ⟨rfl, ⟨m1, rfl⟩⟩
    go_wp2_with fail
    go_ret
    exact ⟨rfl, pw_below_drewN (Below.refl _ _) _⟩
  have HF2 : Aside0 (∀ W, Below w.heap.size w W → Calls Tryd.prog 24 #[.slice A l.length c, .int .i64 i] W fun e w' => e = .returned (.bool true) ∧ Drawn0 W w') := ⟨fun W hW => by have := HF.out W hW; rw [decide_eq_true z2] at this; exact this⟩
  obtain ⟨z3, z4, z5⟩ := z2
  by_cases z6 : i = l.length
  · have e6 : (i == (l.length : Int)) = true := by rw [z6]; simp
    clear z6
    go_enter Tryd.func13, Tryd.ntmps13
    go_wp2_with fail
    with_reducible refine (HF2.out _ (Below.refl _ _)).mono ?_
    rintro e w1 ⟨rfl, ⟨m1, rfl⟩⟩
    go_wp2_with fail
    go_ret
    exact ⟨rfl, pw_below_drewN (Below.refl _ _) _⟩
  have e6 : (i == (l.length : Int)) = false := beq_eq_false_iff_ne.mpr z6
  have z7 : i < (l.length : Int) := by omega
  obtain ⟨ad, rfl, hx⟩ := Kd.at_int HC.out i z4 z7
  by_cases z8 : rd l i = 34
  rotate_left
  · have e8 : (rd l i != 34) = true := bne_iff_ne.mpr z8
    clear z8 z6
    go_enter Tryd.func13, Tryd.ntmps13
    go_wp2_with fail
    with_reducible refine (HF2.out _ (Below.refl _ _)).mono ?_
    rintro e w1 ⟨rfl, ⟨m1, rfl⟩⟩
    go_wp2_with fail
    go_ret
    exact ⟨rfl, pw_below_drewN (Below.refl _ _) _⟩
  have Z8 := Aside0.mk z8
  rw [z8] at hx
  have HV : Aside0 (∀ W, Below w.heap.size w W → Calls Tryd.prog 39 #[.slice (some ad) l.length c, .int .i64 i] W fun e w' => ScanTold (out q (l ++ [0]) .val [] i) l i e w' ∧ Below W.heap.size W w') := ⟨fun W hW => impl39 _ c l i W (HG.out.below hW) (Kd.C_below HC.out hW) hcap HBY.out z3 z4 z7 Z8.out⟩
  have HS : Aside0 (∀ W, Below w.heap.size w W → Calls Tryd.prog 28 #[.slice (some ad) l.length c, .int .i64 i] W fun e w' => e = .returned (teV (out q (l ++ [0]) .val [] i)) ∧ Below W.heap.size W w') := ⟨fun W hW => textEnd _ c l i W (HG.out.below hW) (Kd.C_below HC.out hW) hcap HBY.out z3 z4 z7 Z8.out⟩
  have HWK : Aside0 (∀ W, Below w.heap.size w W → Calls Tryd.prog 22 #[] W fun e w' => e = .returned (.bool true) ∧ Below W.heap.size W w') := ⟨fun W hW => works q W (HG.out.below hW)⟩
  clear z8 z6
  generalize out q (l ++ [0]) .val [] i = O at HV HS
  cases O with
  | fault s =>
    unfold teV at HS
    go_enter Tryd.func13, Tryd.ntmps13
    go_wp2_with fail
    with_reducible refine (HF2.out _ (Below.refl _ _)).mono ?_
    rintro e w1 ⟨rfl, ⟨m1, rfl⟩⟩
    go_wp2_with fail
    with_reducible refine (HS.out _ (pw_below_drewN (Below.refl _ _) _)).mono ?_
    rintro e w2 ⟨rfl, hb2⟩
    have HB2 := Aside0.mk (belowD hb2)
    clear hb2
    go_wp2_with fail
    with_reducible refine (HV.out _ HB2.out).mono ?_
    rintro e w3 ⟨⟨_, _, _, _, _, _, ho, _⟩ | ⟨s', g, off, msg, ae, sb, sa, _, rfl⟩, hb3⟩
    · cases ho
    · have HB3 := Aside0.mk (below_step HB2.out hb3)
      clear hb3
      go_wp2_with fail
      with_reducible refine (HWK.out _ (below_alloc (below_alloc HB3.out _) _)).mono ?_
      rintro e w4 ⟨rfl, hb4⟩
      have HB4 := Aside0.mk (below_step (below_alloc (below_alloc HB3.out _) _) hb4)
      clear hb4
      go_wp2_with fail
      go_ret
      exact ⟨rfl, HB4.out⟩
  | done d =>
    unfold teV at HS
    go_enter Tryd.func13, Tryd.ntmps13
    go_wp2_with fail
    with_reducible refine (HF2.out _ (Below.refl _ _)).mono ?_
    rintro e w1 ⟨rfl, ⟨m1, rfl⟩⟩
    go_wp2_with fail
    with_reducible refine (HS.out _ (pw_below_drewN (Below.refl _ _) _)).mono ?_
    rintro e w2 ⟨rfl, hb2⟩
    have HB2 := Aside0.mk (belowD hb2)
    clear hb2
    go_wp2_with fail
    with_reducible refine (HV.out _ HB2.out).mono ?_
    rintro e w3 ⟨⟨d2, fe, hi, A9, c9, S, ho, a1, a2, hS, hSC, hSc, a5, a6, rfl⟩ | ⟨s', g, off, msg, ae, sb, sa, ho, rfl⟩, hb3⟩
    rotate_left
    · cases ho
    cases ho
    have HB3 := Aside0.mk (below_step HB2.out hb3)
    have hlen : S.length = (d - 1 - (i + 1)).toNat := by rw [hS, List.length_drop, List.length_take]; omega
    have hrS : ∀ k : Int, 0 ≤ k → k < S.length → rd S k = rd (l ++ [0]) (i + 1 + k) := fun k h1 h2 => by
      obtain ⟨n, rfl⟩ := Int.eq_ofNat_of_zero_le h1
      obtain ⟨m, rfl⟩ := Int.eq_ofNat_of_zero_le z4
      rw [show (m : Int) + 1 + (n : Int) = ((m + 1 + n : Nat) : Int) by omega, rd_app l [0] _ (by omega), hS]
      unfold rd
      rw [show ((m : Int) + 1).toNat = m + 1 by omega]
      simp only [Int.toNat_natCast, List.getD_eq_getElem?_getD, List.getElem?_drop, List.getElem?_take]
      rw [if_pos (by omega)]
    obtain ⟨i06, hi06, _, hsz6, _⟩ := info_parts QF.info5
    obtain ⟨A6, hcut6, hA6, hC6⟩ := print_mid_of (P := Tryd.prog) (Value.int .u8) 0 22 5 .i64 .i64 Tryd.underlying22 hi06 hsz6 (some ad) c l (i + 1) (d - 1) (by omega) (by omega) (by omega) hcap
    rw [← hS] at hcut6 hA6 hC6
    obtain ⟨k1, hk1⟩ := firstOf_f S (by omega) fe _ 0 (Int.le_refl _) (by omega) rfl (by
      rcases a5 with ⟨h1, h2⟩ | ⟨k, h1, h2, h3, h4, h5⟩
      · exact .inl ⟨h1, fun k h3 h4 => by rw [hrS k h3 h4]; exact h2 _ (by omega) (by omega)⟩
      · refine .inr ⟨by omega, by omega, by rw [hrS _ (by omega) (by omega), h3, show i + 1 + (k - (i + 1)) = k by omega]; exact h4, fun k' h6 h7 => by rw [hrS k' h6 (by omega)]; exact h5 _ (by omega) (by omega)⟩)
    obtain ⟨k2, hk2⟩ := isForeign_f S (by omega) hi _ 0 (Int.le_refl _) (by omega) rfl (a6.trans ⟨fun ⟨k, h1, h2, h3⟩ => ⟨k - (i + 1), by omega, by omega, by rw [hrS _ (by omega) (by omega), show i + 1 + (k - (i + 1)) = k by omega]; exact h3⟩, fun ⟨k, h1, h2, h3⟩ => ⟨i + 1 + k, by omega, by omega, by rw [← hrS k h1 h2]; exact h3⟩⟩)
    have HFO : Aside0 (∀ W, Below w.heap.size w W → Calls Tryd.prog 40 #[.slice A6 S.length (c - (i + 1).toNat), .int .u8 92] W fun e w' => e = .returned (.int .i64 fe) ∧ Drawn0 W w') := ⟨fun W hW => spec_FirstOf.calls k1 A6 _ S 92 fe W (Kd.C_of_reads (h1 := fun _ => rfl) (hA6 W (Kd.reads_of_C (Kd.C_below HC.out hW)))) hC6 hk1⟩
    have HIF : Aside0 (∀ W, Below w.heap.size w W → Calls Tryd.prog 41 #[.slice A6 S.length (c - (i + 1).toNat)] W fun e w' => e = .returned (.bool hi) ∧ Drawn0 W w') := ⟨fun W hW => spec_IsForeign.calls k2 A6 _ S hi W (Kd.C_of_reads (h1 := fun _ => rfl) (hA6 W (Kd.reads_of_C (Kd.C_below HC.out hW)))) hC6 hk2⟩
    have HSA : Aside0 (∀ W, Below w3.heap.size w3 W → Calls Tryd.prog 42 #[.slice A9 S.length c9, .slice A6 S.length (c - (i + 1).toNat)] W fun e w' => e = .returned (.bool true) ∧ Drawn0 W w') := ⟨fun W hW => spec_Same.calls A9 c9 S A6 _ S true W (Kd.C_below hSC hW) hSc (Kd.C_of_reads (h1 := fun _ => rfl) (hA6 W (Kd.reads_of_C (Kd.C_below HC.out (below_step HB3.out hW))))) hC6 (by unfold spec_Same.f; simp)⟩
    have e3 : 1 < d := by omega
    have e4 : d ≤ 10001 := by omega
    clear hb3 hSC hSc a5 a6 hS hlen hrS hA6 hC6 hi06 hsz6 hk1 hk2 a2
    go_wp2_with fail
    with_reducible refine (HFO.out _ (below_alloc (below_alloc HB3.out _) _)).mono ?_
    rintro e w4 ⟨rfl, ⟨n4, rfl⟩⟩
    go_wp2_with fail
    with_reducible refine (HIF.out _ (pw_below_drewN (below_alloc (below_alloc HB3.out _) _) _)).mono ?_
    rintro e w5 ⟨rfl, ⟨n5, rfl⟩⟩
    go_wp2_with fail
    with_reducible refine (HSA.out _ (by repeat (first | exact Below.refl _ _ | apply pw_below_drewN | apply below_alloc))).mono ?_
    rintro e w6 ⟨rfl, ⟨n6, rfl⟩⟩
    go_wp2_with fail
    go_ret
    exact ⟨rfl, by repeat (first | exact HB3.out | apply pw_below_drewN | apply below_alloc)⟩
end
theorem scanned_walk (a0 : Option Addr) (len0 cap0 : Nat) (z0 : List Int) (a1 : Int) (w : World) (w0 : (a0 = none ∧ len0 = 0 ∧ cap0 = 0 ∧ z0 = []) ∨ ∃ x, a0 = some x ∧ len0 ≤ cap0 ∧ cap0 ≤ maxLen ∧ z0.length = cap0 ∧ (∀ i, i < z0.length → w.cell? (x.add i) = some (.int .u8 (z0.getD i 0))) ∧ ∀ n ∈ z0, (Lit.int .u8 n).wf = true) (y0 : len0 * 1 ≤ 140737488351232) (w1 : (Lit.int .i64 a1).wf = true) (hG : G Laid.goQ w) :
    Calls Tryd.prog 13 #[.slice a0 len0 cap0, .int .i64 a1] w fun e w' => e = .returned (.bool true) ∧ Below w.heap.size w w' := by
  obtain ⟨l0, rfl, hr0, hm0, hw0, hc0⟩ := ReadsInt.ofRowC w0
  exact scannedLaw _ _ l0 a1 w hG (Kd.C_of_reads (d := (0 : Int)) (h1 := fun _ => rfl) hr0) hc0 (fun x hx => by have := bytes_of l0 hw0 x hx; omega) hm0 (wfI64 w1)
end Go.Proofs.YtfkagnpdapkaaaaDoor.Err
