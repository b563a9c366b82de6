/- FnMasks: the places of quotes, backslashes and brackets among any 64 bytes. -/
import Derived.Test.YtfkagnpdapkaaaaDoorMaskB
import Derived.Test.YtfkagnpdapkaaaaDoorScG
import Derived.DeepKeys
namespace Go.Proofs.YtfkagnpdapkaaaaDoor.Err
open Go.RowKit Go.Proofs.YtfkagnpdapkaaaaDoorW.PrintWords Go.Proofs.YtfkagnpdapkaaaaDoorW.PrintLast Go.Proofs.YtfkagnpdapkaaaaDoorW.PrintMore Go.Proofs.YtfkagnpdapkaaaaDoor.QF
open Go.Proofs.YtfkagnpdapkaaaaDoor.Dig Go.Proofs.YtfkagnpdapkaaaaDoor.Tab Go.Proofs.YtfkagnpdapkaaaaDoor.Swar Go.Proofs.YtfkagnpdapkaaaaDoor.Key
set_option linter.unusedVariables false
/-- The value of an array of bytes. -/
def arrV (l : List Int) : Value := .agg (nums .u8 l).toArray
theorem reads_block (w : World) (l : List Int) (t : TypeId) (hl : l.length ≤ 9223372036854775807) : ReadsInt (w.alloc (.cells (nums .u8 l).toArray t (0, 0))) .u8 (some ⟨w.heap.size, 0, none⟩) l.length l := by
  refine ⟨rfl, hl, fun h => ⟨_, rfl, fun j hj => ?_⟩⟩
  have h1 := blk_new w (.cells (nums .u8 l).toArray t (0, 0))
  have e : (⟨w.heap.size, 0, none⟩ : Addr).add j = ⟨w.heap.size, j, none⟩ := by unfold Addr.add; split <;> simp_all
  rw [e]
  unfold World.cell?
  rw [h1]
  simp [nums, List.getElem?_eq_getElem hj, List.getD_eq_getElem?_getD]
/-- The four masks. -/
def maskV (l : List Int) : Value := .tuple #[.int .u64 (upto l pQ 64 : Nat), .int .u64 (upto l pB 64 : Nat), .int .u64 (upto l pO 64 : Nat), .int .u64 (upto l pC 64 : Nat)]
set_option maxRecDepth 100000 in
set_option maxHeartbeats 8000000 in
theorem masks55 (l : List Int) (w : World) (hb : Bytes l) (h64 : l.length = 64) :
    Calls Tryd.prog 55 #[arrV l] w fun e w' => e = .returned (maskV l) ∧ Below w.heap.size w w' := by
  have HC : Aside0 (∀ v0 v1 v2 v3, Calls Tryd.prog 81 #[.slice (some ⟨w.heap.size, 0, none⟩) 64 64, .pointer (some ⟨w.heap.size + 1, 0, none⟩)] ((w.alloc (.cells (nums .u8 l).toArray 34 (0, 0))).alloc (.cells #[v0, v1, v2, v3] 95 (0, 0)))
      fun e w' => e = .returned (.tuple #[]) ∧ w'.heap[w.heap.size + 1]? = some (.cells #[.int .u64 (upto l pQ 64 : Nat), .int .u64 (upto l pB 64 : Nat), .int .u64 (upto l pO 64 : Nat), .int .u64 (upto l pC 64 : Nat)] 95 (0, 0)) ∧ Below w.heap.size w w') := ⟨fun v0 v1 v2 v3 => by
    have h1 : (w.alloc (.cells (nums .u8 l).toArray 34 (0, 0))).heap.size = w.heap.size + 1 := by rw [← World.alloc_eq]; exact Array.size_push _
    have h2 := blk_new (w.alloc (.cells (nums .u8 l).toArray 34 (0, 0))) (.cells #[v0, v1, v2, v3] 95 (0, 0))
    rw [h1] at h2
    have hr := (reads_block w l 34 (by omega)).allocS (.cells #[v0, v1, v2, v3] 95 (0, 0))
    have := blockWords (some ⟨w.heap.size, 0, none⟩) 64 l (w.heap.size + 1) v0 v1 v2 v3 _ (Kd.C_of_reads (d := (0 : Int)) (h1 := fun _ => rfl) hr) (by omega) hb (by omega) h2
    rw [h64] at this
    refine this.mono ?_
    rintro e w' ⟨rfl, h3, h4⟩
    exact ⟨rfl, h3, (below_alloc (below_alloc (Below.refl _ _) _) _).trans (h4 _ (by omega))⟩⟩
  go_enter Tryd.func55, Tryd.ntmps55
  unfold arrV
  have HR : Aside0 (maskV l = .tuple #[.int .u64 (upto l pQ 64 : Nat), .int .u64 (upto l pB 64 : Nat), .int .u64 (upto l pO 64 : Nat), .int .u64 (upto l pC 64 : Nat)]) := ⟨rfl⟩
  generalize ((upto l pQ 64 : Nat) : Int) = m0 at *
  generalize ((upto l pB 64 : Nat) : Int) = m1 at *
  generalize ((upto l pO 64 : Nat) : Int) = m2 at *
  generalize ((upto l pC 64 : Nat) : Int) = m3 at *
  go_wp2_with fail
  with_reducible refine (HC.out _ _ _ _).mono ?_
  rintro e w' ⟨rfl, h3, h4⟩
  obtain ⟨p0, p1, p2, p3, q0, q1, q2, q3⟩ := four' h3
  have HB := Aside0.mk h4
  clear h4 h3 q0 q1 q2 q3
  go_wp2_with fail
  go_region
  go_wp2_with fail
  refine bodyPost_ret (v := maskV l) ?_ rfl ?_
  · rw [HR.out]
    simp [results]
  exact ⟨rfl, HB.out.drew⟩
theorem four_put {w : World} {b : Nat} {v0 v1 v2 v3 : Value} {t : TypeId} (h : w.heap[b]? = some (.cells #[v0, v1, v2, v3] t (0, 0))) (u0 u1 u2 u3 : Value) :
    ((((w.setCell ⟨b, 0, none⟩ u0).setCell ⟨b, 1, none⟩ u1).setCell ⟨b, 2, none⟩ u2).setCell ⟨b, 3, none⟩ u3).heap[b]? = some (.cells #[u0, u1, u2, u3] t (0, 0)) := by
  have h1 := heap_setCell_same _ b 0 _ t u0 h
  have h2 := heap_setCell_same _ b 1 _ t u1 h1
  have h3 := heap_setCell_same _ b 2 _ t u2 h2
  have h4 := heap_setCell_same _ b 3 _ t u3 h3
  simpa using h4
theorem put4_0 {w : World} {b : Nat} {v0 v1 v2 v3 : Value} {t : TypeId} (h : w.heap[b]? = some (.cells #[v0, v1, v2, v3] t (0, 0))) (u : Value) : ((w.setCell ⟨b, 0, none⟩ u).drew).heap[b]? = some (.cells #[u, v1, v2, v3] t (0, 0)) := by
  have h1 : (w.setCell ⟨b, 0, none⟩ u).heap[b]? = some (.cells #[u, v1, v2, v3] t (0, 0)) := by simpa using heap_setCell_same _ b 0 _ t u h
  exact h1
theorem put4_1 {w : World} {b : Nat} {v0 v1 v2 v3 : Value} {t : TypeId} (h : w.heap[b]? = some (.cells #[v0, v1, v2, v3] t (0, 0))) (u : Value) : ((w.setCell ⟨b, 1, none⟩ u).drew).heap[b]? = some (.cells #[v0, u, v2, v3] t (0, 0)) := by
  have h1 : (w.setCell ⟨b, 1, none⟩ u).heap[b]? = some (.cells #[v0, u, v2, v3] t (0, 0)) := by simpa using heap_setCell_same _ b 1 _ t u h
  exact h1
theorem put4_2 {w : World} {b : Nat} {v0 v1 v2 v3 : Value} {t : TypeId} (h : w.heap[b]? = some (.cells #[v0, v1, v2, v3] t (0, 0))) (u : Value) : ((w.setCell ⟨b, 2, none⟩ u).drew).heap[b]? = some (.cells #[v0, v1, u, v3] t (0, 0)) := by
  have h1 : (w.setCell ⟨b, 2, none⟩ u).heap[b]? = some (.cells #[v0, v1, u, v3] t (0, 0)) := by simpa using heap_setCell_same _ b 2 _ t u h
  exact h1
theorem put4_3 {w : World} {b : Nat} {v0 v1 v2 v3 : Value} {t : TypeId} (h : w.heap[b]? = some (.cells #[v0, v1, v2, v3] t (0, 0))) (u : Value) : ((w.setCell ⟨b, 3, none⟩ u).drew).heap[b]? = some (.cells #[v0, v1, v2, u] t (0, 0)) := by
  have h1 : (w.setCell ⟨b, 3, none⟩ u).heap[b]? = some (.cells #[v0, v1, v2, u] t (0, 0)) := by simpa using heap_setCell_same _ b 3 _ t u h
  exact h1
/-- The thin package's answer. -/
def masksOf (l : List Int) : Value := .agg #[.int .u64 (upto l pQ 64 : Nat), .int .u64 (upto l pB 64 : Nat), .int .u64 (upto l pO 64 : Nat), .int .u64 (upto l pC 64 : Nat)]
set_option maxRecDepth 100000 in
set_option maxHeartbeats 8000000 in
theorem masks23 (l : List Int) (w : World) (hb : Bytes l) (h64 : l.length = 64) :
    Calls Tryd.prog 23 #[arrV l] w fun e w' => e = .returned (masksOf l) ∧ Below w.heap.size w w' := by
  have HC : Aside0 (∀ W, Calls Tryd.prog 55 #[.agg (nums .u8 l).toArray] W fun e w' => e = .returned (maskV l) ∧ Below W.heap.size W w') := ⟨fun W => masks55 l W hb h64⟩
  go_enter Tryd.func23, Tryd.ntmps23
  unfold arrV
  have HR : Aside0 (masksOf l = .agg #[.int .u64 (upto l pQ 64 : Nat), .int .u64 (upto l pB 64 : Nat), .int .u64 (upto l pO 64 : Nat), .int .u64 (upto l pC 64 : Nat)]) := ⟨rfl⟩
  unfold maskV at HC
  generalize ((upto l pQ 64 : Nat) : Int) = m0 at *
  generalize ((upto l pB 64 : Nat) : Int) = m1 at *
  generalize ((upto l pO 64 : Nat) : Int) = m2 at *
  generalize ((upto l pC 64 : Nat) : Int) = m3 at *
  have HI : Aside0 ((Tryd.prog.info? 34).map (·.size) = some (nums .u8 l).toArray.size) := ⟨by rw [show (nums .u8 l).toArray.size = 64 by simp [nums, h64]]; kernel_rfl⟩
  clear hb h64
  go_wp2_with (refine wpList_load_row rfl 34 (.tmp 1) rfl w.heap.size rfl 34 (nums .u8 l).toArray (0, 0) _ (blk_alloc (blk_new _ _) _) Tryd.underlying34 rfl HI.out ?_)
  with_reducible refine (HC.out _).mono ?_
  rintro e w' ⟨rfl, h4⟩
  have h5 : w'.heap[w.heap.size + 1]? = some (.cells #[.int .u64 0, .int .u64 0, .int .u64 0, .int .u64 0] 36 (0, 0)) := by
    have h1 : (w.alloc (.cells (nums .u8 l).toArray 34 (0, 0))).heap.size = w.heap.size + 1 := by rw [← World.alloc_eq]; exact Array.size_push _
    have h2 := blk_new (w.alloc (.cells (nums .u8 l).toArray 34 (0, 0))) (.cells #[.int .u64 0, .int .u64 0, .int .u64 0, .int .u64 0] 36 (0, 0))
    rw [h1] at h2
    exact (h4.block _ (blk_lt' h2)).trans h2
  have HB := Aside0.mk (below_step (below_alloc (below_alloc (Below.refl _ _) _) _) h4)
  have HK := Aside0.mk h5
  obtain ⟨p0, p1, p2, p3, q0, q1, q2, q3⟩ := four' h5
  clear h4 h5
  go_wp2_with fail
  refine bodyPost_ret (v := masksOf l) ?_ rfl ⟨rfl, (((HB.out.setCell (Nat.le_succ _) _).setCell (Nat.le_succ _) _).setCell (Nat.le_succ _) _).setCell (Nat.le_succ _) _⟩
  rw [HR.out]
  exact results_cell_row rfl _ _ (w.heap.size + 1) 36 _ (0, 0) _ rfl (four_put HK.out _ _ _ _) Tryd.underlying36 rfl (by kernel_rfl)
theorem index_arr (l : List Int) (y : Int) (h0 : 0 ≤ y) (h1 : y < 64) (h64 : l.length = 64) (W : World) : (Instr.index 34 (.agg (nums .u8 l).toArray) (.int .i64 y)).run Tryd.prog W = .ok (.int .u8 (rd l y)) W := by
  obtain ⟨i06, hi06, _, hsz6, _⟩ := info_parts (P := Tryd.prog) QF.info5
  have hix : (nums .u8 l).toArray[y.toNat]? = some (.int .u8 (rd l y)) := by
    obtain ⟨h, e⟩ := rd_get l y h0 (by omega)
    rw [e]
    simp [nums, List.getElem?_eq_getElem h]
  have ha : (isAgg 5).run Tryd.prog W = .ok false W := by
    unfold isAgg
    rw [Sem.run_bind, run_underlying Tryd.underlying5 W]
    rfl
  have hp : (part 5 (nums .u8 l).toArray y.toNat).run Tryd.prog W = .ok (.int .u8 (rd l y)) W := by
    unfold part
    simp only [Sem.run_bind, ha, hix]
    rfl
  have e1 : (Instr.index 34 (.agg (nums .u8 l).toArray) (.int .i64 y)).run Tryd.prog W = (part 5 (nums .u8 l).toArray (y.toNat * 1)).run Tryd.prog W := by
    simp [Instr.index, Sem.run_bind, run_underlying Tryd.underlying34, asIntOf, h0, h1, sizeOf, typeInfo, hi06, hsz6]
  rw [e1, Nat.mul_one, hp]
theorem eq_arr (a b c d : Int) (W : World) : (Op.equalIn 10000 36 (.agg #[.int .u64 a, .int .u64 b, .int .u64 c, .int .u64 d]) (.agg #[.int .u64 a, .int .u64 b, .int .u64 c, .int .u64 d])).run Tryd.prog W = .ok true W := by
  have hc : Tryd.prog.cellsOf 35 = 1 := by kernel_rfl
  have hi : ∃ i, Tryd.prog.info? 35 = some i := by
    have h : (Tryd.prog.info? 35).isSome = true := by kernel_rfl
    exact Option.isSome_iff_exists.1 h
  obtain ⟨i, hi⟩ := hi
  have ha : (isAgg 35).run Tryd.prog W = .ok false W := by
    unfold isAgg
    rw [Sem.run_bind, run_underlying Tryd.underlying35 W]
    rfl
  have hp (cs : Array Value) (j : Nat) (v : Value) (h : cs[j]? = some v) : (part 35 cs j).run Tryd.prog W = .ok v W := by
    unfold part
    simp only [Sem.run_bind, ha, h]
    rfl
  have he (x : Int) : (Op.equalIn 9999 35 (.int .u64 x) (.int .u64 x)).run Tryd.prog W = .ok true W := by
    have := run_equalIn_int W 9998 35 .u64 .u64 x x Tryd.underlying35
    rw [beq_self_eq_true] at this
    exact this
  rw [run_equalIn_array W 9999 _ _ Tryd.underlying36 hi, hc, show List.range 4 = [0, 1, 2, 3] from rfl]
  have step (cs : Array Value) (k : Nat) (x : Int) (is : List Nat) (h : cs[k * 1]? = some (.int .u64 x)) : (Op.eqItems 9999 35 1 cs cs (k :: is)).run Tryd.prog W = (Op.eqItems 9999 35 1 cs cs is).run Tryd.prog W := by
    simp only [Op.eqItems, Sem.run_bind, hp _ _ _ h, he, Result.andThen_ok, Bool.not_true, Bool.false_eq_true, if_false]
  rw [step _ 0 a _ rfl, step _ 1 b _ rfl, step _ 2 c _ rfl, step _ 3 d _ rfl]
  rfl
theorem upto_succ (l : List Int) (p : Nat → Bool) (n : Nat) : upto l p (n + 1) = upto l p n + 2 ^ n * (p (rd l (n : Int)).toNat).toNat := by
  unfold upto
  rw [nb_add, List.map_append, bitsOf_append, List.length_map, nb_length, Nat.zero_add]
  simp [nb, bitsOf]
theorem upto_not (l : List Int) (p : Nat → Bool) (n : Nat) (h : p (rd l (n : Int)).toNat = false) : upto l p (n + 1) = upto l p n := by rw [upto_succ, h]; simp
theorem upto_lt (l : List Int) (p : Nat → Bool) (n : Nat) : upto l p n < 2 ^ n := by
  have := bitsOf_lt ((nb l n 0).map p)
  rwa [List.length_map, nb_length] at this
theorem upto_bit (l : List Int) (p : Nat → Bool) (n : Nat) (hn : n < 64) (h : p (rd l (n : Int)).toNat = true) : Go.bits .or .u64 ((upto l p n : Nat) : Int) (IntKind.u64.wrap (2 ^ n)) = ((upto l p (n + 1) : Nat) : Int) := by
  have h1 := upto_lt l p n
  have h2 : 2 ^ n < 2 ^ 64 := Nat.pow_lt_pow_right (by decide) hn
  have e : IntKind.u64.wrap (2 ^ n) = ((2 ^ n : Nat) : Int) := by rw [show ((2 : Int) ^ n) = ((2 ^ n : Nat) : Int) by simp]; exact wrapu _ (by omega)
  rw [e, Swar.bits_or _ _ (by omega) (by omega), upto_succ, h]
  have := Nat.two_pow_add_eq_or_of_lt (i := n) (b := upto l p n) h1 1
  rw [Nat.mul_one] at this
  rw [Nat.or_comm, ← this]
  simp
  omega
theorem p_fin : ∀ b : Fin 256, pO b.1 = (b.1 == 91 || b.1 == 123) ∧ pC b.1 = (b.1 == 93 || b.1 == 125) := by decide +kernel
theorem blk_keep3 {w w' : World} {X : Obj} (hb : Below (w.alloc X).heap.size (w.alloc X) w') : w'.heap[w.heap.size]? = some X := (hb.block _ (blk_lt' (blk_new w X))).trans (blk_new w X)
/-- What a byte adds to the four. -/
theorem four_bits (l : List Int) (hb : Bytes l) (n : Nat) (hn : n < 64) : 
    (rd l (n : Int) = 34 → Go.bits .or .u64 ((upto l pQ n : Nat) : Int) (IntKind.u64.wrap (2 ^ n)) = ((upto l pQ (n + 1) : Nat) : Int)) ∧ (rd l (n : Int) ≠ 34 → upto l pQ (n + 1) = upto l pQ n) ∧
    (rd l (n : Int) = 92 → Go.bits .or .u64 ((upto l pB n : Nat) : Int) (IntKind.u64.wrap (2 ^ n)) = ((upto l pB (n + 1) : Nat) : Int)) ∧ (rd l (n : Int) ≠ 92 → upto l pB (n + 1) = upto l pB n) ∧
    (rd l (n : Int) = 91 ∨ rd l (n : Int) = 123 → Go.bits .or .u64 ((upto l pO n : Nat) : Int) (IntKind.u64.wrap (2 ^ n)) = ((upto l pO (n + 1) : Nat) : Int)) ∧ (rd l (n : Int) ≠ 91 ∧ rd l (n : Int) ≠ 123 → upto l pO (n + 1) = upto l pO n) ∧
    (rd l (n : Int) = 93 ∨ rd l (n : Int) = 125 → Go.bits .or .u64 ((upto l pC n : Nat) : Int) (IntKind.u64.wrap (2 ^ n)) = ((upto l pC (n + 1) : Nat) : Int)) ∧ (rd l (n : Int) ≠ 93 ∧ rd l (n : Int) ≠ 125 → upto l pC (n + 1) = upto l pC n) := by
  have hr := rd_mem hb n
  have hf := p_fin ⟨(rd l (n : Int)).toNat, by omega⟩
  simp only at hf
  refine ⟨fun h => upto_bit l _ n hn ?_, fun h => upto_not l _ n ?_, fun h => upto_bit l _ n hn ?_, fun h => upto_not l _ n ?_, fun h => upto_bit l _ n hn ?_, fun h => upto_not l _ n ?_, fun h => upto_bit l _ n hn ?_, fun h => upto_not l _ n ?_⟩
  · rw [h]; decide
  · unfold pQ; exact beq_eq_false_iff_ne.mpr (by omega)
  · rw [h]; decide
  · unfold pB; exact beq_eq_false_iff_ne.mpr (by omega)
  · rw [hf.1]; rcases h with h | h <;> rw [h] <;> decide
  · rw [hf.1, Bool.or_eq_false_iff]; exact ⟨beq_eq_false_iff_ne.mpr (by omega), beq_eq_false_iff_ne.mpr (by omega)⟩
  · rw [hf.2]; rcases h with h | h <;> rw [h] <;> decide
  · rw [hf.2, Bool.or_eq_false_iff]; exact ⟨beq_eq_false_iff_ne.mpr (by omega), beq_eq_false_iff_ne.mpr (by omega)⟩
set_option maxRecDepth 100000 in
set_option maxHeartbeats 8000000 in
theorem masksLaw (q : ByteArray → ByteArray) (l : List Int) (w : World) (hG : G q w) (hb : Bytes l) (h64 : l.length = 64) :
    Calls Tryd.prog 4 #[arrV l] w fun e w' => e = .returned (.bool true) ∧ Below w.heap.size w w' := by
  have HC : Aside0 (∀ W, Calls Tryd.prog 23 #[.agg (nums .u8 l).toArray] W fun e w' => e = .returned (masksOf l) ∧ Below W.heap.size W w') := ⟨fun W => masks23 l W hb h64⟩
  have HB := Aside0.mk hb
  have HG := Aside0.mk hG
  have HI : Aside0 ((Tryd.prog.info? 34).map (·.size) = some (nums .u8 l).toArray.size) := ⟨by rw [show (nums .u8 l).toArray.size = 64 by simp [nums, h64]]; kernel_rfl⟩
  have HU : Aside0 (∀ p, ((upto l p 0 : Nat) : Int) = 0) := ⟨fun p => rfl⟩
  clear hb hG
  go_enter Tryd.func4, Tryd.ntmps4
  unfold arrV
  go_wp2_with (refine wpList_load_row rfl 34 (.tmp 1) rfl w.heap.size rfl 34 (nums .u8 l).toArray (0, 0) _ (blk_new _ _) Tryd.underlying34 rfl HI.out ?_)
  with_reducible refine (HC.out _).mono ?_
  rintro e w1 ⟨rfl, h4⟩
  have HM : Aside0 (∃ m0 m1 m2 m3 : Int, masksOf l = .agg #[.int .u64 m0, .int .u64 m1, .int .u64 m2, .int .u64 m3] ∧ m0 = (upto l pQ 64 : Nat) ∧ m1 = (upto l pB 64 : Nat) ∧ m2 = (upto l pO 64 : Nat) ∧ m3 = (upto l pC 64 : Nat)) := ⟨_, _, _, _, rfl, rfl, rfl, rfl, rfl⟩
  obtain ⟨m0, m1, m2, m3, hm, hms⟩ := HM.out
  rw [hm]
  have HMS := Aside0.mk hms
  have HX := Aside0.mk (blk_keep3 h4)
  have HBB := Aside0.mk (below_step (below_alloc (Below.refl _ _) _) h4)
  clear h4 hm HM hms
  go_wp2_with (refine wpList_load_row rfl 34 (.tmp 1) rfl w.heap.size rfl 34 (nums .u8 l).toArray (0, 0) _ (blk_alloc (blk_alloc HX.out _) _) Tryd.underlying34 rfl HI.out ?_)
  have hsz : (w1.alloc (.cells #[.int .u64 m0, .int .u64 m1, .int .u64 m2, .int .u64 m3] 36 (0, 0))).heap.size = w1.heap.size + 1 := by rw [← World.alloc_eq]; exact Array.size_push _
  have hd := blk_new (w1.alloc (.cells #[.int .u64 m0, .int .u64 m1, .int .u64 m2, .int .u64 m3] 36 (0, 0))) (.cells #[.int .u64 0, .int .u64 0, .int .u64 0, .int .u64 0] 36 (0, 0))
  rw [hsz] at hd
  have HD := Aside0.mk hd
  have HGOT := Aside0.mk (blk_alloc (blk_new w1 (.cells #[.int .u64 m0, .int .u64 m1, .int .u64 m2, .int .u64 m3] 36 (0, 0))) (.cells #[.int .u64 0, .int .u64 0, .int .u64 0, .int .u64 0] 36 (0, 0)))
  have HB2 := Aside0.mk (below_alloc (below_alloc HBB.out (.cells #[.int .u64 m0, .int .u64 m1, .int .u64 m2, .int .u64 m3] 36 (0, 0))) (.cells #[.int .u64 0, .int .u64 0, .int .u64 0, .int .u64 0] 36 (0, 0)))
  have HSZ : Aside0 (w.heap.size ≤ w1.heap.size) := ⟨HBB.out.size⟩
  clear hd hsz HX HBB
  generalize ((w1.alloc (.cells #[.int .u64 m0, .int .u64 m1, .int .u64 m2, .int .u64 m3] 36 (0, 0))).alloc (.cells #[.int .u64 0, .int .u64 0, .int .u64 0, .int .u64 0] 36 (0, 0))) = w2 at *
  go_loopg [11] 64 (fun kq v11 w' => ∃ (y d0 d1 d2 d3 : Int), v11 = .int .i64 y ∧ Aside0 (∃ i : Nat, y = i ∧ i + kq = 64 ∧ d0 = upto l pQ i ∧ d1 = upto l pB i ∧ d2 = upto l pO i ∧ d3 = upto l pC i) ∧
    Aside0 (w'.heap[w1.heap.size + 1]? = some (.cells #[.int .u64 d0, .int .u64 d1, .int .u64 d2, .int .u64 d3] 36 (0, 0))) ∧ Aside0 (Below (w1.heap.size + 1) w2 w'))
  case atStart => exact ⟨0, 0, 0, 0, 0, rfl, ⟨0, rfl, rfl, rfl, rfl, rfl, rfl⟩, ⟨HD.out⟩, ⟨Below.refl _ _⟩⟩
  case round =>
    obtain ⟨y, d0, d1, d2, d3, rfl, HA, HK, HW⟩ := hrel
    by_cases hy : y < 64
    · have hy0 : 0 ≤ y := by obtain ⟨i, h1, h2, _⟩ := HA.out; omega
      obtain _ | g0 := gk
      · exfalso; obtain ⟨i, h1, h2, _⟩ := HA.out; omega
      obtain ⟨p0, p1, p2, p3, q0, q1, q2, q3⟩ := four' HK.out
      have hix : ∀ W, (Instr.index 34 (.agg (nums .u8 l).toArray) (.int .i64 y)).run Tryd.prog W = .ok (.int .u8 (rd l y)) W := fun W => index_arr l y hy0 hy h64 W
      have HF := four_bits l HB.out y.toNat (by omega)
      rw [Int.toNat_of_nonneg hy0] at HF
      have HF2 := Aside0.mk HF
      clear HF
      generalize rd l y = c at *
      have hy1 : wrap64 (y + 1) = y + 1 := by unfold wrap64; omega
      have HST : Aside0 (∀ e0 e1 e2 e3 : Int, e0 = (upto l pQ (y.toNat + 1) : Nat) → e1 = (upto l pB (y.toNat + 1) : Nat) → e2 = (upto l pO (y.toNat + 1) : Nat) → e3 = (upto l pC (y.toNat + 1) : Nat) → ∃ i : Nat, y + 1 = i ∧ i + g0 = 64 ∧ e0 = upto l pQ i ∧ e1 = upto l pB i ∧ e2 = upto l pO i ∧ e3 = upto l pC i) := ⟨fun e0 e1 e2 e3 h0 h1 h2 h3 => by
        obtain ⟨i, h4, h5, _⟩ := HA.out
        exact ⟨y.toNat + 1, by omega, by omega, h0, h1, h2, h3⟩⟩
      have HN : Aside0 (d0 = (upto l pQ y.toNat : Nat) ∧ d1 = (upto l pB y.toNat : Nat) ∧ d2 = (upto l pO y.toNat : Nat) ∧ d3 = (upto l pC y.toNat : Nat)) := ⟨by
        obtain ⟨i, rfl, h5, h6⟩ := HA.out
        exact h6⟩
      clear HA
      by_cases c34 : c = 34
      · subst c34
        go_wp2_with fail
        go_region
        go_wp2_with fail
        go_roundg g0
        case measure => omega
        case rel => exact ⟨y + 1, (Go.bits .or .u64 d0 (IntKind.u64.wrap (2 ^ y.toNat))), (d1), (d2), (d3), rfl, ⟨HST.out _ _ _ _ (by rw [HN.out.1]; exact HF2.out.1 (by trivial)) (by rw [HN.out.2.1, HF2.out.2.2.2.1 (by decide)]) (by rw [HN.out.2.2.1, HF2.out.2.2.2.2.2.1 (by decide)]) (by rw [HN.out.2.2.2, HF2.out.2.2.2.2.2.2.2 (by decide)])⟩, ⟨put4_0 HK.out _⟩, ⟨(HW.out.setCell (Nat.le_refl _) _).drew⟩⟩
      by_cases c92 : c = 92
      · subst c92
        go_wp2_with fail
        go_region
        go_wp2_with fail
        go_roundg g0
        case measure => omega
        case rel => exact ⟨y + 1, (d0), (Go.bits .or .u64 d1 (IntKind.u64.wrap (2 ^ y.toNat))), (d2), (d3), rfl, ⟨HST.out _ _ _ _ (by rw [HN.out.1, HF2.out.2.1 (by decide)]) (by rw [HN.out.2.1]; exact HF2.out.2.2.1 (by trivial)) (by rw [HN.out.2.2.1, HF2.out.2.2.2.2.2.1 (by decide)]) (by rw [HN.out.2.2.2, HF2.out.2.2.2.2.2.2.2 (by decide)])⟩, ⟨put4_1 HK.out _⟩, ⟨(HW.out.setCell (Nat.le_refl _) _).drew⟩⟩
      by_cases c123 : c = 123
      · subst c123
        go_wp2_with fail
        go_region
        go_wp2_with fail
        go_roundg g0
        case measure => omega
        case rel => exact ⟨y + 1, (d0), (d1), (Go.bits .or .u64 d2 (IntKind.u64.wrap (2 ^ y.toNat))), (d3), rfl, ⟨HST.out _ _ _ _ (by rw [HN.out.1, HF2.out.2.1 (by decide)]) (by rw [HN.out.2.1, HF2.out.2.2.2.1 (by decide)]) (by rw [HN.out.2.2.1]; exact HF2.out.2.2.2.2.1 (by decide)) (by rw [HN.out.2.2.2, HF2.out.2.2.2.2.2.2.2 (by decide)])⟩, ⟨put4_2 HK.out _⟩, ⟨(HW.out.setCell (Nat.le_refl _) _).drew⟩⟩
      by_cases c91 : c = 91
      · subst c91
        go_wp2_with fail
        go_region
        go_wp2_with fail
        go_roundg g0
        case measure => omega
        case rel => exact ⟨y + 1, (d0), (d1), (Go.bits .or .u64 d2 (IntKind.u64.wrap (2 ^ y.toNat))), (d3), rfl, ⟨HST.out _ _ _ _ (by rw [HN.out.1, HF2.out.2.1 (by decide)]) (by rw [HN.out.2.1, HF2.out.2.2.2.1 (by decide)]) (by rw [HN.out.2.2.1]; exact HF2.out.2.2.2.2.1 (by decide)) (by rw [HN.out.2.2.2, HF2.out.2.2.2.2.2.2.2 (by decide)])⟩, ⟨put4_2 HK.out _⟩, ⟨(HW.out.setCell (Nat.le_refl _) _).drew⟩⟩
      by_cases c125 : c = 125
      · subst c125
        go_wp2_with fail
        go_region
        go_wp2_with fail
        go_roundg g0
        case measure => omega
        case rel => exact ⟨y + 1, (d0), (d1), (d2), (Go.bits .or .u64 d3 (IntKind.u64.wrap (2 ^ y.toNat))), rfl, ⟨HST.out _ _ _ _ (by rw [HN.out.1, HF2.out.2.1 (by decide)]) (by rw [HN.out.2.1, HF2.out.2.2.2.1 (by decide)]) (by rw [HN.out.2.2.1, HF2.out.2.2.2.2.2.1 (by decide)]) (by rw [HN.out.2.2.2]; exact HF2.out.2.2.2.2.2.2.1 (by decide))⟩, ⟨put4_3 HK.out _⟩, ⟨(HW.out.setCell (Nat.le_refl _) _).drew⟩⟩
      by_cases c93 : c = 93
      · subst c93
        go_wp2_with fail
        go_region
        go_wp2_with fail
        go_roundg g0
        case measure => omega
        case rel => exact ⟨y + 1, (d0), (d1), (d2), (Go.bits .or .u64 d3 (IntKind.u64.wrap (2 ^ y.toNat))), rfl, ⟨HST.out _ _ _ _ (by rw [HN.out.1, HF2.out.2.1 (by decide)]) (by rw [HN.out.2.1, HF2.out.2.2.2.1 (by decide)]) (by rw [HN.out.2.2.1, HF2.out.2.2.2.2.2.1 (by decide)]) (by rw [HN.out.2.2.2]; exact HF2.out.2.2.2.2.2.2.1 (by decide))⟩, ⟨put4_3 HK.out _⟩, ⟨(HW.out.setCell (Nat.le_refl _) _).drew⟩⟩
      have b34 : (c == 34) = false := beq_eq_false_iff_ne.mpr c34
      have b92 : (c == 92) = false := beq_eq_false_iff_ne.mpr c92
      have b123 : (c == 123) = false := beq_eq_false_iff_ne.mpr c123
      have b91 : (c == 91) = false := beq_eq_false_iff_ne.mpr c91
      have b125 : (c == 125) = false := beq_eq_false_iff_ne.mpr c125
      have b93 : (c == 93) = false := beq_eq_false_iff_ne.mpr c93
      have HE := Aside0.mk (HST.out d0 d1 d2 d3 (by rw [HN.out.1, HF2.out.2.1 c34]) (by rw [HN.out.2.1, HF2.out.2.2.2.1 c92]) (by rw [HN.out.2.2.1, HF2.out.2.2.2.2.2.1 ⟨c91, c123⟩]) (by rw [HN.out.2.2.2, HF2.out.2.2.2.2.2.2.2 ⟨c93, c125⟩]))
      clear c34 c92 c123 c91 c125 c93
      go_wp2_with fail
      go_roundg g0
      case measure => omega
      case rel => exact ⟨y + 1, d0, d1, d2, d3, rfl, HE, HK, HW⟩
    -- exit
    · have hy2 : y = 64 := by obtain ⟨i, h1, h2, _⟩ := HA.out; omega
      have HE : Aside0 (m0 = d0 ∧ m1 = d1 ∧ m2 = d2 ∧ m3 = d3) := ⟨by
        obtain ⟨i, h1, h2, h3, h4, h5, h6⟩ := HA.out
        obtain ⟨k1, k2, k3, k4⟩ := HMS.out
        obtain rfl : i = 64 := by omega
        exact ⟨k1.trans h3.symm, k2.trans h4.symm, k3.trans h5.symm, k4.trans h6.symm⟩⟩
      obtain ⟨rfl, rfl, rfl, rfl⟩ := HE.out
      subst hy2
      clear HA hy HE
      obtain ⟨p0, p1, p2, p3, q0, q1, q2, q3⟩ := four' HK.out
      have hg := (HW.out.block w1.heap.size (Nat.lt_succ_self _)).trans HGOT.out
      obtain ⟨r0, r1, r2, r3, s0, s1, s2, s3⟩ := four' hg
      clear hg q0 q1 q2 q3 s0 s1 s2 s3
      have heq := eq_arr m0 m1 m2 m3
      have HBW := Aside0.mk (HB2.out.trans (HW.out.mono (Nat.le_succ_of_le HSZ.out)))
      clear HK HW HD HGOT HB2
      go_wp2_with fail
      with_reducible refine (works q _ (HG.out.below HBW.out)).mono ?_
      rintro e w4 ⟨rfl, hb4⟩
      have HB4 := Aside0.mk (below_step HBW.out hb4)
      clear hb4
      go_wp2_with fail
      go_ret
      exact ⟨rfl, HB4.out⟩
end Go.Proofs.YtfkagnpdapkaaaaDoor.Err
