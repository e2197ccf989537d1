import Derived.Test.YbulkdqnuEq
namespace Go.Proofs.Ybulkdqnu
open Go.RowKit Ring
open Go.Lib (compareBytes byteCells byteCells_length)

set_option maxRecDepth 1000000 in
set_option maxHeartbeats 1000000 in
theorem between_walk (w : World) (p a b : List UInt8) (hp : p.length = 20) (ha : a.length = 20) (hb : b.length = 20) :
    Calls Yba.prog 7 #[.agg (byteCells p).toArray, .agg (byteCells a).toArray, .agg (byteCells b).toArray] w fun e w' => e = .returned (.bool (bet p a b)) ∧ Below w.heap.size w w' := by
  obtain ⟨W, hW⟩ : ∃ W, W = (((w.alloc (Obj.cells (byteCells p).toArray 23)).alloc (Obj.cells (byteCells a).toArray 23)).alloc (Obj.cells (byteCells b).toArray 23)) := ⟨_, rfl⟩
  have HB : Below w.heap.size w W := by
    rw [hW]
    exact (((Below.refl _ _).alloc (Nat.le_refl _) _).alloc (by simp) _).alloc (by simp; omega) _
  have R0 : W.rangeAt w.heap.size 0 (byteCells p) := by
    rw [hW]; exact World.rangeAt_alloc (World.rangeAt_alloc (rangeAt_new w _ 23) _) _
  have R1 : W.rangeAt (w.heap.size + 1) 0 (byteCells a) := by
    have h := rangeAt_new (w.alloc (Obj.cells (byteCells p).toArray 23)) (byteCells a) 23
    simp only [World.size_alloc] at h
    rw [hW]; exact World.rangeAt_alloc h _
  have R2 : W.rangeAt (w.heap.size + 1 + 1) 0 (byteCells b) := by
    have h := rangeAt_new ((w.alloc (Obj.cells (byteCells p).toArray 23)).alloc (Obj.cells (byteCells a).toArray 23)) (byteCells b) 23
    simp only [World.size_alloc] at h
    rw [hW]; exact h
  go_enter Yba.func7, Yba.ntmps7
  go_wp2_with fail
  rw [← hW]
  clear hW
  refine (compare_walk W _ _ a b ha hb R1 R2).mono ?_
  rintro e w' ⟨rfl, n1, rfl⟩
  rcases cmp_val a b (by omega) with ⟨c1, _⟩ | ⟨c1, _, e1⟩ | ⟨c1, _⟩
  · rw [c1]
    go_wp2_with fail
    refine (compare_walk (W.drewN n1) _ _ a p ha hp R1 R0).mono ?_
    rintro e w' ⟨rfl, n2, rfl⟩
    rcases cmp_val a p (by omega) with ⟨c2, _⟩ | ⟨c2, _, e2⟩ | ⟨c2, _⟩
    · rw [c2]
      go_wp2_with fail
      refine (compare_walk (W.drewN (n1 + n2)) _ _ p b hp hb R0 R2).mono ?_
      rintro e w' ⟨rfl, n3, rfl⟩
      rcases cmp_val p b (by omega) with ⟨c3, _⟩ | ⟨c3, _, e3⟩ | ⟨c3, _⟩
      all_goals
        rw [c3]
        go_wp2_with fail
        go_ret
        exact ⟨by simp [bet, c1, c2, c3], below_drewN HB _⟩
    all_goals
      rw [c2]
      go_wp2_with fail
      go_ret
      exact ⟨by simp [bet, c1, c2], below_drewN HB _⟩
  · clear e1
    rw [c1]
    have he := eq23 p a hp ha
    have R0' : (W.drewN n1).rangeAt w.heap.size 0 (byteCells p) := R0
    have R1' : (W.drewN n1).rangeAt (w.heap.size + 1) 0 (byteCells a) := R1
    go_wp2_with (first
      | (refine wpList_load_mid rfl 23 (.tmp 3) rfl w.heap.size 0 rfl (byteCells p) _ R0' Yba.underlying23 rfl (by rw [Yba.size23, byteCells_length, hp]) ?_)
      | (refine wpList_load_mid rfl 23 (.tmp 4) rfl (w.heap.size + 1) 0 rfl (byteCells a) _ R1' Yba.underlying23 rfl (by rw [Yba.size23, byteCells_length, ha]) ?_))
    go_ret
    exact ⟨by simp [bet, c1], below_drewN HB _⟩
  · rw [c1]
    go_wp2_with fail
    refine (compare_walk (W.drewN n1) _ _ a p ha hp R1 R0).mono ?_
    rintro e w' ⟨rfl, n2, rfl⟩
    rcases cmp_val a p (by omega) with ⟨c2, _⟩ | ⟨c2, _, e2⟩ | ⟨c2, _⟩
    · rw [c2]
      go_wp2_with fail
      go_ret
      exact ⟨by simp [bet, c1, c2], below_drewN HB _⟩
    all_goals
      rw [c2]
      go_wp2_with fail
      refine (compare_walk (W.drewN (n1 + n2)) _ _ p b hp hb R0 R2).mono ?_
      rintro e w' ⟨rfl, n3, rfl⟩
      rcases cmp_val p b (by omega) with ⟨c3, _⟩ | ⟨c3, _, e3⟩ | ⟨c3, _⟩
      all_goals
        rw [c3]
        go_wp2_with fail
        go_ret
        exact ⟨by simp [bet, c1, c2, c3], below_drewN HB _⟩

end Go.Proofs.Ybulkdqnu
