import Derived.Test.YbulkdqnuEq
namespace Go.Proofs.Ybulkdqnu
open Go.RowKit Ring
open Go.Lib (compareBytes byteCells byteCells_length)

/-- Byte k of a list as a number. -/
def at8 (l : List UInt8) (k : Nat) : Int := ((l.getD k 0).toNat : Int)

theorem at8_bd (l : List UInt8) (k : Nat) : 0 ≤ at8 l k ∧ at8 l k ≤ 255 := by
  have := (l.getD k 0).toNat_lt
  unfold at8
  omega

theorem byteCells_at (l : List UInt8) {k : Nat} (h : k < l.length) : (byteCells l)[k]? = some (.int .u8 (at8 l k)) := by
  simp [byteCells, at8, h]

theorem range_at {w : World} {b o : Nat} {l : List UInt8} (h : w.rangeAt b o (byteCells l)) {k : Nat} (hk : k < l.length) : w.cell? ⟨b, o + k, none⟩ = some (.int .u8 (at8 l k)) := h k _ (byteCells_at l hk)

theorem lt_drop {a b : List UInt8} {k : Nat} (ha : k < a.length) (hb : k < b.length) : lt (a.drop k) (b.drop k) = if at8 a k = at8 b k then lt (a.drop (k + 1)) (b.drop (k + 1)) else decide (at8 a k < at8 b k) := by
  rw [List.drop_eq_getElem_cons ha, List.drop_eq_getElem_cons hb, lt]
  have e1 : a.getD k 0 = a[k] := by simp [ha]
  have e2 : b.getD k 0 = b[k] := by simp [hb]
  unfold at8
  rw [e1, e2]
  by_cases h : a[k] = b[k]
  · rw [if_pos h, if_pos (by rw [h])]
  · have h' : ¬ ((a[k].toNat : Int) = b[k].toNat) := fun q => h (UInt8.toNat_inj.1 (by omega))
    rw [if_neg h, if_neg h']
    rw [Bool.eq_iff_iff, decide_eq_true_eq, decide_eq_true_eq, UInt8.lt_iff_toNat_lt]
    omega

set_option maxRecDepth 1000000 in
set_option maxHeartbeats 1000000 in
theorem less_walk (w : World) (a b : List UInt8) (ha : a.length = 20) (hb : b.length = 20) :
    Calls Yba.prog 5 #[.agg (byteCells a).toArray, .agg (byteCells b).toArray] w fun e w' => e = .returned (.bool (lt a b)) ∧ Below w.heap.size w w' := by
  obtain ⟨W, hW⟩ : ∃ W, W = ((w.alloc (Obj.cells (byteCells a).toArray 23)).alloc (Obj.cells (byteCells b).toArray 23)) := ⟨_, rfl⟩
  have HB : Below w.heap.size w W := by
    rw [hW]
    exact ((Below.refl _ _).alloc (Nat.le_refl _) _).alloc (by simp) _
  have R0 : W.rangeAt w.heap.size 0 (byteCells a) := by
    rw [hW]; exact World.rangeAt_alloc (rangeAt_new w _ 23) _
  have R1 : W.rangeAt (w.heap.size + 1) 0 (byteCells b) := by
    have h := rangeAt_new (w.alloc (Obj.cells (byteCells a).toArray 23)) (byteCells b) 23
    simp only [World.size_alloc] at h
    rw [hW]; exact h
  go_enter Yba.func5, Yba.ntmps5
  go_wp2_with fail
  rw [← hW]
  clear hW
  go_loopg [5] 20 (fun g s5 wr => ∃ k n : Nat, k ≤ 20 ∧ g = 20 - k ∧ s5 = .int .i64 k ∧ wr = W.drewN n ∧ lt a b = lt (a.drop k) (b.drop k))
  case atStart => exact ⟨0, 0, Nat.zero_le _, rfl, rfl, rfl, rfl⟩
  case round =>
    obtain ⟨k, n, hk, rfl, rfl, rfl, hlt⟩ := hrel
    have Hlt := hideIt hlt
    clear hlt
    by_cases hk20 : k < 20
    · have hkz : (k : Int) < 20 := by omega
      have c0 := range_at R0 (k := k) (by omega)
      have c1 := range_at R1 (k := k) (by omega)
      rw [Nat.zero_add] at c0 c1
      have b0 := at8_bd a k
      have b1 := at8_bd b k
      have HD := hideIt (lt_drop (a := a) (b := b) (k := k) (by omega) (by omega))
      cases hne : (at8 a k != at8 b k)
      · have he : at8 a k = at8 b k := by simpa using hne
        have He := hideIt he
        clear he
        go_wp2_with fail
        go_quiet (fail)
        go_wp2
        go_roundg (20 - (k + 1))
        case measure => go_light; omega
        case rel =>
          go_light
          refine ⟨k + 1, _, by omega, rfl, by simp, rfl, ?_⟩
          rw [Hlt.out, HD.out, if_pos He.out]
      · have he : ¬ at8 a k = at8 b k := by simpa using hne
        have He := hideIt he
        clear he
        go_wp2_with fail
        go_quiet (fail)
        go_wp2_with fail
        go_quiet (fail)
        go_wp2
        go_ret
        refine ⟨?_, below_drewN (below_drewN (below_drewN HB _) _) _⟩
        rw [Hlt.out, HD.out, if_neg He.out]
        rfl
    · obtain rfl : k = 20 := by omega
      have hfin : lt a b = false := by
        rw [Hlt.out, List.drop_of_length_le (by omega), List.drop_of_length_le (by omega)]
        rfl
      have Hf := hideIt hfin
      clear hfin
      go_wp2
      go_ret
      exact ⟨by rw [Hf.out]; rfl, below_drewN HB _⟩

end Go.Proofs.Ybulkdqnu
