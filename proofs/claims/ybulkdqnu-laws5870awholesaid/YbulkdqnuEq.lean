import Derived.Test.YbulkdqnuCmp
import Derived.DeepKeys
import Derived.Laws.StructEq
namespace Go.Proofs.Ybulkdqnu
open Go.RowKit Ring
open Go.Lib (compareBytes byteCells byteCells_length)

def bits8 (b : UInt8) : List Lit := [.int .u8 (b.toNat : Int)]

theorem mapM_bytes (f : List Value → Option (List Lit)) (hf : ∀ b : UInt8, f [.int .u8 (b.toNat : Int)] = some (bits8 b)) :
    ∀ l : List UInt8, (List.range l.length).mapM (fun i => f (((byteCells l).drop i).take 1)) = some (l.map bits8)
  | [] => rfl
  | b :: l => by
    have ih := mapM_bytes f hf l
    rw [List.length_cons, List.range_succ_eq_map, List.mapM_cons, List.mapM_map]
    have h0 : f (((byteCells (b :: l)).drop 0).take 1) = some (bits8 b) := by
      simp only [byteCells, List.map_cons, List.drop_zero, List.take_succ_cons, List.take_zero]
      exact hf b
    have h1 : (fun i => f (((byteCells (b :: l)).drop i).take 1)) ∘ Nat.succ = (fun i => f (((byteCells l).drop i).take 1)) := by
      funext i
      simp [byteCells]
    rw [h0]
    simp only [h1, ih]
    rfl

theorem flat_inj : ∀ l m : List UInt8, (l.map bits8).flatten = (m.map bits8).flatten → l = m
  | [], [], _ => rfl
  | [], b :: m, h => by simp [bits8] at h
  | a :: l, [], h => by simp [bits8] at h
  | a :: l, b :: m, h => by
    simp only [List.map_cons, List.flatten_cons, bits8, List.cons_append, List.nil_append, List.cons.injEq, Lit.int.injEq, true_and] at h
    have e1 : a = b := UInt8.toNat_inj.1 (by omega)
    rw [e1, flat_inj l m h.2]

theorem lit_wf (b : UInt8) : (Lit.int .u8 (b.toNat : Int)).wf = true := by
  have := b.toNat_lt
  have e1 : IntKind.u8.min = 0 := rfl
  have e2 : IntKind.u8.max = 255 := rfl
  simp [Lit.wf, e1, e2]
  omega

theorem key5 (b : UInt8) : Yba.prog.keyLits 2 5 [.int .u8 (b.toNat : Int)] = some (bits8 b) := by
  simp [Program.keyLits, Yba.underlying5, lit_wf, bits8]

theorem Yba.cells23 : Yba.prog.cellsOf 23 = 20 := by kernel_rfl
theorem Yba.cells5 : Yba.prog.cellsOf 5 = 1 := by kernel_rfl

theorem key23 (l : List UInt8) (hl : l.length = 20) : Yba.prog.keyLits 3 23 (byteCells l) = some (l.map bits8).flatten := by
  have h := mapM_bytes (Yba.prog.keyLits 2 5) key5 l
  rw [hl] at h
  show Yba.prog.keyLits (2 + 1) 23 (byteCells l) = _
  unfold Program.keyLits
  simp only [Yba.underlying23, Yba.cells23, Yba.cells5, byteCells_length, hl, if_true, Nat.mul_one, h]
  rfl

/-- '==' on two identifiers. -/
theorem eq23 (p a : List UInt8) (hp : p.length = 20) (ha : a.length = 20) (w : World) :
    (Op.equalIn 10000 23 (.agg (byteCells p).toArray) (.agg (byteCells a).toArray)).run Yba.prog w = .ok (decide (p = a)) w := by
  obtain ⟨r, hr, hiff⟩ := run_equalIn_deep (P := Yba.prog) 9990 10 23 (by kernel_rfl) w 3 3 (.agg (byteCells p).toArray) (.agg (byteCells a).toArray) _ _ (by simp [Value.formed, Yba.underlying23, Yba.cells23, byteCells_length, hp]) (by simp [Value.formed, Yba.underlying23, Yba.cells23, byteCells_length, ha]) (key23 p hp) (key23 a ha)
  have e : r = decide (p = a) := by
    rw [Bool.eq_iff_iff, hiff, decide_eq_true_eq]
    exact ⟨flat_inj p a, fun h => by rw [h]⟩
  rw [← e]
  exact hr

/-- A peer's cells. -/
def pcells (q : List UInt8 × ByteArray) : List Value := byteCells q.1 ++ [.string q.2]

theorem pcells_length (q : List UInt8 × ByteArray) (h : q.1.length = 20) : (pcells q).length = 21 := by simp [pcells, byteCells_length, h]

theorem Yba.cells27 : Yba.prog.cellsOf 27 = 21 := by kernel_rfl
theorem Yba.cells9 : Yba.prog.cellsOf 9 = 1 := by kernel_rfl

theorem key27 (q : List UInt8 × ByteArray) (h : q.1.length = 20) (hs : q.2.size ≤ maxLen) : ∃ L, Yba.prog.keyLits 4 27 (pcells q) = some L := by
  have h1 := key23 q.1 h
  have h2 : Yba.prog.keyLits 3 9 [.string q.2] = some [.string q.2.data.toList] := by
    show Yba.prog.keyLits (2 + 1) 9 [.string q.2] = _
    unfold Program.keyLits
    simp only [Yba.underlying9, hs, if_true]
  have e1 : ((pcells q).drop 0).take 20 = byteCells q.1 := by
    rw [List.drop_zero, pcells, List.take_append_of_le_length (by rw [byteCells_length, h]; exact Nat.le_refl _), List.take_of_length_le (by rw [byteCells_length, h]; exact Nat.le_refl _)]
  have e2 : ((pcells q).drop 20).take 1 = [.string q.2] := by
    rw [pcells, List.drop_append_of_le_length (by rw [byteCells_length, h]; exact Nat.le_refl _), List.drop_of_length_le (by rw [byteCells_length, h]; exact Nat.le_refl _)]
    rfl
  refine ⟨((q.1.map bits8).flatten :: [[.string q.2.data.toList]]).flatten, ?_⟩
  show Yba.prog.keyLits (3 + 1) 27 (pcells q) = _
  unfold Program.keyLits
  simp only [Yba.underlying27, Yba.cells27, pcells_length q h, true_and]
  rw [if_pos (by kernel_rfl)]
  simp only [List.mapM_cons, List.mapM_nil, Yba.cells23, Yba.cells9, e1, e2, h1, h2]
  rfl

/-- '==' on one and the same peer. -/
theorem eq27 (q : List UInt8 × ByteArray) (h : q.1.length = 20) (hs : q.2.size ≤ maxLen) (w : World) :
    (Op.equalIn 10000 27 (.agg (pcells q).toArray) (.agg (pcells q).toArray)).run Yba.prog w = .ok true w := by
  obtain ⟨L, hL⟩ := key27 q h hs
  obtain ⟨r, hr, hiff⟩ := run_equalIn_deep (P := Yba.prog) 9990 10 27 (by kernel_rfl) w 4 4 (.agg (pcells q).toArray) (.agg (pcells q).toArray) _ _ (by simp [Value.formed, Yba.underlying27, Yba.cells27, pcells_length q h]) (by simp [Value.formed, Yba.underlying27, Yba.cells27, pcells_length q h]) hL hL
  rw [← hiff.2 rfl]
  exact hr

end Go.Proofs.Ybulkdqnu
