import Derived.Test.YbulkdqoiCatch
import Derived.Laws.BitsAllLaws
import Derived.Deep.WholeRow
namespace Go.Proofs.Ybulkdqoi
open Go.RowKit

theorem and_mask (a : Nat) (h : a < 18446744073709551616) : a &&& 18446744073709486080 = a / 65536 * 65536 := by
  have e1 : (18446744073709486080 : Nat) = (2 ^ 48 - 1) <<< 16 := by decide
  have e2 : a / 65536 * 65536 = (a >>> 16) <<< 16 := by rw [Nat.shiftRight_eq_div_pow, Nat.shiftLeft_eq]
  rw [e1, e2]
  apply Nat.eq_of_testBit_eq
  intro i
  rw [Nat.testBit_and, Nat.testBit_shiftLeft, Nat.testBit_shiftLeft, Nat.testBit_shiftRight, Nat.testBit_two_pow_sub_one]
  by_cases h1 : i ≥ 16
  · have e3 : 16 + (i - 16) = i := by omega
    rw [e3]
    by_cases h2 : i - 16 < 48
    · simp [h1, h2]
    · have hb : a.testBit i = false := Nat.testBit_lt_two_pow (Nat.lt_of_lt_of_le h (by
        have : 2 ^ 64 ≤ 2 ^ i := Nat.pow_le_pow_right (by omega) (by omega)
        exact this))
      simp [hb]
  · simp [h1]

theorem andNot_tick (u : Int) (h0 : 0 ≤ u) (h1 : u ≤ 18446744073709551615) : bits BinOp.andNot IntKind.u64 u 65535 = u / 65536 * 65536 := by
  rw [u64_andNot u 65535 h0 (by omega) (by omega) (by omega)]
  have e : (18446744073709551615 - (65535 : Int).toNat) = 18446744073709486080 := by decide
  rw [e, and_mask _ (by omega)]
  omega

theorem wrap64_bd (x : Int) : -9223372036854775808 ≤ wrap64 x ∧ wrap64 x ≤ 9223372036854775807 := by
  unfold wrap64
  omega

theorem tk_max (v : Int) : tk v = if 8835955200000000000 < max v 0 then 8835955200000000000 else max v 0 := by
  unfold tk
  by_cases h0 : v < 0
  · rw [if_pos h0, show max v 0 = 0 by omega]
    rfl
  · rw [if_neg h0, show max v 0 = v by omega]

theorem skew_bd (lead from_ est hold raw : Int) (be : -9223372036854775808 ≤ est ∧ est ≤ 9223372036854775807) :
    -9223372036854775808 ≤ skew lead from_ est hold raw ∧ skew lead from_ est hold raw ≤ 9223372036854775807 := by
  unfold skew
  have := wrap64_bd (lead - wrap64 (wrap64 (wrap64 ((wrap64 (raw - from_)).tdiv 1000000) * 1024) + wrap64 ((wrap64 ((wrap64 (raw - from_)).tmod 1000000 * 1024)).tdiv 1000000)))
  split
  · exact be
  · split
    · omega
    · exact this

/-- The law's own test: does last go up to the tick less one? -/
def upB (F t : Int) : Bool := decide (0 < t) && (F == 18446744073709551615 || decide (F < t - 1))

theorem toOf_up (F t : Int) (hF : 0 ≤ F ∧ F ≤ 18446744073709551615) (ht : 0 ≤ t ∧ t ≤ 18446744073709551615) : toOf F t = if upB F t then t - 1 else F := by
  unfold toOf
  by_cases hm : F = 18446744073709551615
  · subst hm
    have e : IntKind.u64.wrap (18446744073709551615 + 1) = 0 := by decide
    rw [e]
    by_cases h0 : 0 < t
    · rw [if_pos h0, if_pos (by simp [upB, h0])]
    · rw [if_neg h0, if_neg (by simp [upB, h0])]
  · have e : IntKind.u64.wrap (F + 1) = F + 1 := by rw [IntKind.wrap_u64]; omega
    have hmb : (F == 18446744073709551615) = false := by simp [hm]
    rw [e]
    by_cases h1 : F + 1 < t
    · rw [if_pos h1, if_pos]
      simp only [upB, hmb, Bool.false_or, Bool.and_eq_true, decide_eq_true_eq]
      omega
    · rw [if_neg h1, if_neg]
      simp only [upB, hmb, Bool.false_or, Bool.and_eq_true, decide_eq_true_eq]
      omega

theorem tick_bd (v lead from_ est hold : Int) : 0 ≤ tickOf v lead from_ est hold ∧ tickOf v lead from_ est hold ≤ 18446744073709551615 := by
  unfold tickOf
  split
  · omega
  · have hb := u64wrap_bd (phys (tk v) (skew lead from_ est hold (tk v)))
    rw [andNot_tick _ hb.1 hb.2]
    omega

theorem from_bd {last fr to_ : Int} (bl : 0 ≤ last ∧ last ≤ 18446744073709551615) (bf : 0 ≤ fr ∧ fr ≤ 18446744073709551615) : 0 ≤ fromOf last fr to_ ∧ fromOf last fr to_ ≤ 18446744073709551615 := by
  unfold fromOf
  split
  · exact bf
  · exact bl

theorem zero42 : ∃ Z : Array Value, (∀ w, (zeroValue 42).run Yba.prog w = .ok (.agg Z) w) ∧ (Yba.prog.info? 42).map (·.size) = some 250 ∧ Z.size = 250 ∧ Z[121]? = some (.int .u64 0) ∧ Z[248]? = some (.int .u64 0) ∧ Z[249]? = some (.int .u64 0) := by
  have h : (Yba.prog.info? 42).map (fun i => (i.zero.map (fun z => match z with | .agg cs => some (cs.size, cs[121]?, cs[248]?, cs[249]?) | _ => none), i.size)) = some (some (some (250, some (.int .u64 0), some (.int .u64 0), some (.int .u64 0))), 250) := by kernel_rfl
  cases hq : Yba.prog.info? 42 with
  | none => simp [hq] at h
  | some i =>
    simp only [hq, Option.map_some, Option.some.injEq, Prod.mk.injEq] at h
    obtain ⟨h1, h2⟩ := h
    obtain ⟨z, hz, hm⟩ := Option.map_eq_some_iff.1 h1
    cases z with
    | agg cs =>
      simp only [Option.some.injEq, Prod.mk.injEq] at hm
      exact ⟨cs, fun w => by simp [zeroValue, typeInfo, hq, hz], by simp [h2], hm.1, hm.2.1, hm.2.2.1, hm.2.2.2⟩
    | _ => cases hm

theorem Done.far {w w' : World} {bc : Nat} {F T : Int} (h : Done w w' bc F T) {b o : Nat} {v : Value} (hc : w.cell? ⟨b, o, none⟩ = some v) (hb : b ≠ bc) : w'.cell? ⟨b, o, none⟩ = some v := by
  rw [World.cell?_of_block (w := w) (h.other b hb)]
  exact hc

theorem Done.below {w w' : World} {bc : Nat} {F T : Int} (h : Done w w' bc F T) {B : Nat} (hb : B ≤ bc) : Below B w w' :=
  ⟨h.os, h.tape, h.output, Nat.le_of_eq h.size.symm, fun k hk => h.other k (by omega)⟩

/-- The world in which catchUp is called: the law's own two boxes behind wc; the skew's box at N. -/
structure Mem4 (wc W4 : World) (N : Nat) (last fr to_ lead from_ est hold : Int) : Prop where
  bel : Below wc.heap.size wc W4
  s0 : W4.cell? ⟨N, 0, none⟩ = some (.int .i64 lead)
  s1 : W4.cell? ⟨N, 1, none⟩ = some (.int .i64 from_)
  s2 : W4.cell? ⟨N, 2, none⟩ = some (.int .i64 est)
  s3 : W4.cell? ⟨N, 3, none⟩ = some (.int .i64 hold)
  e0 : W4.cell? ⟨wc.heap.size + 1, 0, none⟩ = some (.int .i64 lead)
  e1 : W4.cell? ⟨wc.heap.size + 1, 1, none⟩ = some (.int .i64 from_)
  e2 : W4.cell? ⟨wc.heap.size + 1, 2, none⟩ = some (.int .i64 est)
  e3 : W4.cell? ⟨wc.heap.size + 1, 3, none⟩ = some (.int .i64 hold)
  k0 : W4.cell? ⟨wc.heap.size, 121, none⟩ = some (.int .u64 last)
  k1 : W4.cell? ⟨wc.heap.size, 248, none⟩ = some (.int .u64 fr)
  k2 : W4.cell? ⟨wc.heap.size, 249, none⟩ = some (.int .u64 to_)
  f0 : W4.frozen? ⟨wc.heap.size, 121, none⟩ = false
  f1 : W4.frozen? ⟨wc.heap.size, 248, none⟩ = false
  f2 : W4.frozen? ⟨wc.heap.size, 249, none⟩ = false

theorem cell_clock (w : World) (C : Array Value) (t : TypeId) (o2 : Obj) (i : Nat) : ((w.alloc (.cells C t)).alloc o2).cell? ⟨w.heap.size, i, none⟩ = C[i]? := by
  rw [World.cell?_alloc_lt _ _ _ (by show w.heap.size < (w.alloc _).heap.size; simp), cell_of_row _ _ i C t (0, 0) (heap_alloc_last w _)]

theorem frozen_clock (w : World) (C : Array Value) (t : TypeId) (o2 : Obj) (i : Nat) : ((w.alloc (.cells C t)).alloc o2).frozen? ⟨w.heap.size, i, none⟩ = false := by
  rw [World.frozen?_alloc_past _ _ _ (by show w.heap.size < (w.alloc _).heap.size; simp)]
  have h := heap_alloc_last w (.cells C t)
  simp only [World.frozen?, h]
  simp

theorem cell_new (w : World) (o1 : Obj) (C : Array Value) (t : TypeId) (i : Nat) : ((w.alloc o1).alloc (.cells C t)).cell? ⟨w.heap.size + 1, i, none⟩ = C[i]? := by
  have h := cell_of_row _ _ i C t (0, 0) (heap_alloc_last (w.alloc o1) (.cells C t))
  simp only [World.size_alloc] at h
  exact h

theorem mem4 (wc : World) (N : Nat) (Z : Array Value) (hZ : Z.size = 250) (last fr to_ lead from_ est hold : Int) (hN : N < wc.heap.size)
    (d0 : ∀ o, (wc.alloc o).cell? ⟨N, 0, none⟩ = some (.int .i64 lead)) (d1 : ∀ o, (wc.alloc o).cell? ⟨N, 1, none⟩ = some (.int .i64 from_)) (d2 : ∀ o, (wc.alloc o).cell? ⟨N, 2, none⟩ = some (.int .i64 est)) (d3 : ∀ o, (wc.alloc o).cell? ⟨N, 3, none⟩ = some (.int .i64 hold)) :
    Mem4 wc ((wc.alloc (Obj.cells (((Z.setIfInBounds 121 (Value.int IntKind.u64 last)).setIfInBounds 248 (Value.int IntKind.u64 fr)).setIfInBounds 249 (Value.int IntKind.u64 to_)) 42)).alloc (Obj.cells #[Value.int IntKind.i64 lead, Value.int IntKind.i64 from_, Value.int IntKind.i64 est, Value.int IntKind.i64 hold] 44)) N last fr to_ lead from_ est hold := by
  have old : ∀ (o1 o2 : Obj) (i : Nat), ((wc.alloc o1).alloc o2).cell? ⟨N, i, none⟩ = (wc.alloc o1).cell? ⟨N, i, none⟩ := fun o1 o2 i => World.cell?_alloc_lt _ _ _ (by show N < (wc.alloc _).heap.size; simp; omega)
  refine ⟨((Below.refl _ _).alloc (Nat.le_refl _) _).alloc (by simp) _, ?_, ?_, ?_, ?_, ?_, ?_, ?_, ?_, ?_, ?_, ?_, frozen_clock _ _ _ _ _, frozen_clock _ _ _ _ _, frozen_clock _ _ _ _ _⟩
  · rw [old]; exact d0 _
  · rw [old]; exact d1 _
  · rw [old]; exact d2 _
  · rw [old]; exact d3 _
  · rw [cell_new]; rfl
  · rw [cell_new]; rfl
  · rw [cell_new]; rfl
  · rw [cell_new]; rfl
  · rw [cell_clock]; simp [hZ]
  · rw [cell_clock]; simp [hZ]
  · rw [cell_clock]; simp [hZ]

end Go.Proofs.Ybulkdqoi
