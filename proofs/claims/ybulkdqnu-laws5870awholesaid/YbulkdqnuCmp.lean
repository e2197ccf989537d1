import Derived.Test.YbulkdqnuChecked
import Derived.Test.YbulkdqnuPlain
import Derived.WalkKit
import Derived.WalkLawsBesides
import Derived.WalkSpells
import Derived.Deep.LoopGhost
import Derived.Deep.DeepCutAuto
import Derived.Deep.Light
import Derived.BigQuiet
import Derived.BigRegion
import Derived.Deep.RegionHeld3
import Derived.Deep.MidRow
import Derived.Deep.WholeRow
import Derived.Lib.BytesEntry
import Derived.Lib.UnsafeStr
namespace Go.Proofs.Ybulkdqnu
open Go.RowKit Ring
open Go.Lib (compareBytes byteCells byteCells_length)

theorem hideIt {p : Prop} (h : p) : Hid p := h

theorem bytesOf_nat (l : List UInt8) : Lib.bytesOf (l.map fun x => ((x.toNat : Nat) : Int)) = l := by
  induction l with
  | nil => rfl
  | cons a l ih =>
    simp only [Lib.bytesOf, List.map_cons] at ih ⊢
    rw [ih]
    simp

/-- What 'internal/bytealg.Compare' gives, its two slices' cells known. -/
theorem run_cmp {P : Program} (w : World) (b1 o1 b2 o2 n c1 c2 : Nat) (x y : List UInt8) (hx : x.length = n) (hy : y.length = n) (h1 : w.rangeAt b1 o1 (byteCells x)) (h2 : w.rangeAt b2 o2 (byteCells y)) :
    (Extern.BytealgCompare.compare #[.slice (some ⟨b1, o1, none⟩) n c1, .slice (some ⟨b2, o2, none⟩) n c2]).run P w = .ok (.int .i64 (compareBytes x y)) w := by
  have ld : ∀ (b o : Nat) (l : List UInt8), l.length = n → w.rangeAt b o (byteCells l) → (Extern.Bytes.loadBytes ⟨b, o, none⟩ n .empty).run P w = .ok ⟨l.toArray⟩ w := fun b o l hl h => by
    have := Lib.run_loadBytesX (P := P) w (l.map fun x => ((x.toNat : Nat) : Int)) ⟨b, o, none⟩ .empty (fun j v hv => by
      rw [Addr.add_mid]
      refine h j _ ?_
      rw [List.getElem?_map] at hv
      simp only [byteCells, List.getElem?_map]
      obtain ⟨u, hu, rfl⟩ := Option.map_eq_some_iff.1 hv
      rw [hu]
      rfl)
    rw [bytesOf_nat, List.length_map, hl] at this
    rw [this]
    congr 1
    apply ByteArray.ext
    simp
  change Sem.run P (do pure (goInt (Extern.BytealgCompare.cmp (← Extern.Bytes.bytesOf (.slice (some ⟨b1, o1, none⟩) n c1)) (← Extern.Bytes.bytesOf (.slice (some ⟨b2, o2, none⟩) n c2))))) w = _
  simp only [Extern.Bytes.bytesOf, Sem.run_bind, Sem.run_pure, Result.andThen, ld b1 o1 x hx h1, ld b2 o2 y hy h2]
  rw [Lib.cmp_eq]
  rfl

theorem bytesCompare (w : World) (b1 o1 b2 o2 c1 c2 : Nat) (x y : List UInt8) (hx : x.length = 20) (hy : y.length = 20) (h1 : w.rangeAt b1 o1 (byteCells x)) (h2 : w.rangeAt b2 o2 (byteCells y)) :
    Calls Yba.prog 9 #[.slice (some ⟨b1, o1, none⟩) 20 c1, .slice (some ⟨b2, o2, none⟩) 20 c2] w fun e w' => e = .returned (.int .i64 (compareBytes x y)) ∧ w' = w := by
  go_enter Yba.func9, Yba.ntmps9
  go_wp2
  rw [run_callFunc_extern Yba.func10 (by kernel_rfl) (by kernel_rfl) (by kernel_rfl) (e := Extern.BytealgCompare.compare) (by kernel_rfl), run_cmp w b1 o1 b2 o2 20 c1 c2 x y hx hy h1 h2]
  simp only [Result.andThen]
  rw [Oper.upon_value]
  go_wp2
  go_ret
  exact ⟨rfl, rfl⟩

theorem compare_walk (w : World) (b1 b2 : Nat) (x y : List UInt8) (hx : x.length = 20) (hy : y.length = 20) (h1 : w.rangeAt b1 0 (byteCells x)) (h2 : w.rangeAt b2 0 (byteCells y)) :
    Calls Yba.prog 8 #[.pointer (some ⟨b1, 0, none⟩), .pointer (some ⟨b2, 0, none⟩)] w fun e w' => e = .returned (.int .i64 (compareBytes x y)) ∧ ∃ n, w' = w.drewN n := by
  go_enter Yba.func8, Yba.ntmps8
  go_wp2
  go_quiet ((go_at_call 9; exact Calls.quiet_of_same (bytesCompare _ b1 0 b2 0 20 20 x y hx hy h1 h2)))
  go_wp2
  go_ret
  exact ⟨rfl, _, rfl⟩


theorem rangeAt_new (w : World) (cs : List Value) (t : TypeId) : (w.alloc (.cells cs.toArray t)).rangeAt w.heap.size 0 cs := fun j v hv => by
  rw [cell_of_row _ _ (0 + j) cs.toArray t (0, 0) (heap_alloc_last w _)]
  simpa using hv

theorem Yba.size23 : (Yba.prog.info? 23).map (·.size) = some 20 := by kernel_rfl

end Go.Proofs.Ybulkdqnu
