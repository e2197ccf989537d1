import Derived.Test.YbulkdqnuNear
import Derived.Laws.MakeOwn
import Derived.Laws.IdiomCopy
namespace Go.Proofs.Ybulkdqnu
open Go.RowKit Ring
open Go.Lib (compareBytes byteCells byteCells_length)

/-- The cells of n peers in a row. -/
def allc (Q : Nat → List UInt8 × ByteArray) : Nat → List Value
  | 0 => []
  | n + 1 => allc Q n ++ pcells (Q n)

theorem allc_length (Q : Nat → List UInt8 × ByteArray) : ∀ n, (∀ i, i < n → (Q i).1.length = 20) → (allc Q n).length = n * 21
  | 0, _ => rfl
  | n + 1, h => by
    rw [allc, List.length_append, allc_length Q n (fun i hi => h i (by omega)), pcells_length _ (h n (by omega))]
    omega

theorem allc_one (Q : Nat → List UInt8 × ByteArray) : ∀ n, ∀ v ∈ allc Q n, v.oneCell' = true
  | 0, v, hv => by simp [allc] at hv
  | n + 1, v, hv => by
    rw [allc, List.mem_append] at hv
    rcases hv with hv | hv
    · exact allc_one Q n v hv
    · exact pcells_one _ v hv

theorem rangeAt_append {w : World} {b o : Nat} {xs ys : List Value} (h1 : w.rangeAt b o xs) (h2 : w.rangeAt b (o + xs.length) ys) : w.rangeAt b o (xs ++ ys) := fun j v hv => by
  by_cases hj : j < xs.length
  · rw [List.getElem?_append_left hj] at hv
    exact h1 j v hv
  · rw [List.getElem?_append_right (by omega)] at hv
    have := h2 (j - xs.length) v hv
    rw [show o + xs.length + (j - xs.length) = o + j by omega] at this
    exact this

theorem rangeAt_right {w : World} {b o : Nat} {xs ys : List Value} (h : w.rangeAt b o (xs ++ ys)) : w.rangeAt b (o + xs.length) ys := fun j v hv => by
  have := h (xs.length + j) v (by rw [List.getElem?_append_right (by omega)]; rw [show xs.length + j - xs.length = j by omega]; exact hv)
  rw [show o + (xs.length + j) = o + xs.length + j by omega] at this
  exact this

theorem allc_of {w : World} {b o : Nat} {Q : Nat → List UInt8 × ByteArray} : ∀ n, (∀ i, i < n → (Q i).1.length = 20) → (∀ i, i < n → w.rangeAt b (o + i * 21) (pcells (Q i))) → w.rangeAt b o (allc Q n)
  | 0, _, _ => fun j v hv => by simp [allc] at hv
  | n + 1, hl, h => by
    rw [allc]
    refine rangeAt_append (allc_of n (fun i hi => hl i (by omega)) (fun i hi => h i (by omega))) ?_
    rw [allc_length Q n (fun i hi => hl i (by omega))]
    exact h n (by omega)

theorem of_allc {w : World} {b o : Nat} {Q : Nat → List UInt8 × ByteArray} : ∀ n, (∀ i, i < n → (Q i).1.length = 20) → w.rangeAt b o (allc Q n) → ∀ i, i < n → w.rangeAt b (o + i * 21) (pcells (Q i))
  | 0, _, _, i, hi => absurd hi (Nat.not_lt_zero _)
  | n + 1, hl, h, i, hi => by
    rw [allc] at h
    by_cases e : i = n
    · subst e
      have := rangeAt_right h
      rw [allc_length Q i (fun k hk => hl k (by omega))] at this
      exact this
    · exact of_allc n (fun k hk => hl k (by omega)) (rangeAt_left h) i (by omega)

/-- 'make([]Peer, n)'. -/
theorem make24 (n : Nat) (hn : n ≤ 1048576) : ∃ Z : Array Value, Z.size = n * 21 ∧ ∀ w, (Instr.makeSlice 24 (.int .i64 (n : Int)) (.int .i64 (n : Int))).run Yba.prog w = .ok (.slice (some ⟨w.heap.size, 0, none⟩) n n) (w.alloc (.cells Z 27)) := by
  have h27 : (Yba.prog.info? 27).map (fun i => (i.zero.isSome, i.size, i.bytes)) = some (true, 21, 40) := by kernel_rfl
  cases hi : Yba.prog.info? 27 with
  | none => simp [hi] at h27
  | some i =>
    simp only [hi, Option.map_some, Option.some.injEq, Prod.mk.injEq] at h27
    obtain ⟨hz, hs, hb⟩ := h27
    obtain ⟨z, hz⟩ := Option.isSome_iff_exists.1 hz
    refine ⟨madeCells z.cells (n * 21), size_madeCells _ _, fun w => ?_⟩
    have := run_make (P := Yba.prog) w 24 27 i z Yba.underlying24 hi hz .i64 .i64 n n (by omega) (Int.le_refl _) (by rw [hb]; omega) (by omega)
    rw [this, hs, Int.toNat_natCast]

/-- 'copy(before, peers)', as many peers on either side. -/
theorem run_copy21 (w : World) (ty : TypeId) (b o n dCap : Nat) (a : Addr) (sCap : Nat) (cs : List Value) (hn : cs.length = n * 21)
    (hsrc : ∀ j v, cs[j]? = some v → w.cell? (a.add j) = some v) (ht : w.there b o (n * 21)) (h1 : ∀ v ∈ cs, v.oneCell' = true) :
    (Builtin.copy_ #[24, 24] ty #[.slice (some ⟨b, o, none⟩) n dCap, .slice (some a) n sCap]).run Yba.prog w = .ok (goInt n) (w.setCells b o cs) := by
  have hl := run_loadCells_list (P := Yba.prog) w a cs hsrc
  have hst := run_storeCells_cells (P := Yba.prog) b o cs 0 w (fun j hj => by simpa using (ht j (by omega)).1) (fun j hj => by simpa using (ht j (by omega)).2) h1
  cases hq : Yba.prog.info? 27 with
  | none => have := Yba.size27; simp [hq] at this
  | some i =>
    have hi : i.size = 21 := by have := Yba.size27; simpa [hq] using this
    rw [hn] at hl
    have hmin : Nat.min n n = n := Nat.min_self n
    simp [Builtin.copy_, run_underlying Yba.underlying24, Builtin.lenOf, Builtin.firstCells, sizeOf, typeInfo, hq, hi, hmin, hl, hst]

theorem wpList_copy21 {w : World} {ops : Array Oper} {rest : List Oper} {op : Oper} {a : Act} {Q : Exit → Act → World → Prop} (hgd : op.guard = none) (d s : Operand)
    (ho : op.op = .call { callee := .builtin .copy, args := #[d, s], argTypes := #[24, 24] })
    (b o n dCap : Nat) (ad : Addr) (sCap : Nat) (hd : a.eval d = .slice (some ⟨b, o, none⟩) n dCap) (hs : a.eval s = .slice (some ad) n sCap)
    (cs : List Value) (hn : cs.length = n * 21) (hsrc : ∀ j v, cs[j]? = some v → w.cell? (ad.add j) = some v) (ht : w.there b o (n * 21)) (h1 : ∀ v ∈ cs, v.oneCell' = true)
    (h : wpList Yba.prog ops Q rest (a.put op.dst (goInt n)) (w.setCells b o cs)) : wpList Yba.prog ops Q (op :: rest) a w := by
  refine wpList_plain hgd fun K hK => ?_
  have hrun := run_copy21 w op.type b o n dCap ad sCap cs hn hsrc ht h1
  unfold Oper.wp
  simp [execOp, ho, resolve, invoke, builtin, hd, hs, hrun, Result.andThen]
  exact hK _ _ h

/-- What stands through the law's body: the identifier's own box, the copy of the peers; what was there is as it was. -/
structure LSt (w wr : World) (l : List UInt8) (n : Nat) (Q : Nat → List UInt8 × ByteArray) : Prop where
  bel : Below w.heap.size w wr
  hlt : w.heap.size + 1 < wr.heap.size
  rid : wr.rangeAt w.heap.size 0 (byteCells l)
  rq : ∀ i, i < n → wr.rangeAt (w.heap.size + 1) (i * 21) (pcells (Q i))

theorem lst_below {w wr w' : World} {l : List UInt8} {n : Nat} {Q : Nat → List UInt8 × ByteArray} (h : LSt w wr l n Q) {B : Nat} (hBr : w.heap.size + 1 < B) (hB : Below B wr w') : LSt w w' l n Q :=
  ⟨h.bel.trans (hB.mono (by omega)), by have := hB.size; have := h.hlt; omega, rangeAt_below hB (by omega) h.rid, fun i hi => rangeAt_below hB (by omega) (h.rq i hi)⟩

theorem lst_drew {w wr : World} {l : List UInt8} {n : Nat} {Q : Nat → List UInt8 × ByteArray} (h : LSt w wr l n Q) : LSt w wr.drew l n Q :=
  ⟨below_drewN h.bel 1, h.hlt, h.rid, h.rq⟩

theorem lst_alloc {w wr : World} {l : List UInt8} {n : Nat} {Q : Nat → List UInt8 × ByteArray} (h : LSt w wr l n Q) (o : Obj) : LSt w (wr.alloc o) l n Q :=
  lst_below h h.hlt ((Below.refl _ _).alloc (Nat.le_refl _) o)

theorem lst_set {w wr : World} {l : List UInt8} {n : Nat} {Q : Nat → List UInt8 × ByteArray} (h : LSt w wr l n Q) {g : Nat} (hg : w.heap.size + 1 < g) (o : Nat) (vs : List Value) : LSt w (wr.setCells g o vs) l n Q :=
  lst_below h (B := g) hg (below_setCells (Below.refl _ _) (Nat.le_refl _) o vs)

theorem lst_call {w wr w' : World} {l : List UInt8} {n : Nat} {Q : Nat → List UInt8 × ByteArray} (h : LSt w wr l n Q) (hB : Below wr.heap.size wr w') : LSt w w' l n Q :=
  lst_below h h.hlt hB

theorem lst_start (w : World) (l : List UInt8) (n : Nat) (Q : Nat → List UInt8 × ByteArray) (hl : ∀ i, i < n → (Q i).1.length = 20) (Z : Array Value) (hZ : Z.size = n * 21) :
    LSt w (((w.alloc (Obj.cells (byteCells l).toArray 23)).alloc (Obj.cells Z 27)).setCells (w.heap.size + 1) 0 (allc Q n)) l n Q := by
  have t1 := there_at (W := w.alloc (Obj.cells (byteCells l).toArray 23)) (g := w.heap.size + 1) (by simp) Z 27 hZ
  have hB : Below w.heap.size w ((w.alloc (Obj.cells (byteCells l).toArray 23)).alloc (Obj.cells Z 27)) := ((Below.refl _ _).alloc (Nat.le_refl _) _).alloc (by simp) _
  have hB2 := below_setCells (b := w.heap.size + 1) (Below.refl (w.heap.size + 1) ((w.alloc (Obj.cells (byteCells l).toArray 23)).alloc (Obj.cells Z 27))) (Nat.le_refl _) 0 (allc Q n)
  refine ⟨below_setCells hB (by omega) _ _, by have := hB2.size; simp at this; omega, ?_, ?_⟩
  · exact World.rangeAt_setCells_apart (World.rangeAt_alloc (rangeAt_new w _ 23) _) _ _ _ (by omega)
  · have h := of_allc n hl (World.rangeAt_setCells_same ((w.alloc (Obj.cells (byteCells l).toArray 23)).alloc (Obj.cells Z 27)) (w.heap.size + 1) 0 (allc Q n) (by rw [allc_length Q n hl]; exact t1))
    intro i hi
    have := h i hi
    rw [Nat.zero_add] at this
    exact this

/-- .. and the least key so far, in its own variable. -/
structure KSt (w wr : World) (l : List UInt8) (n : Nat) (Q : Nat → List UInt8 × ByteArray) (g : Nat) (K : List UInt8) : Prop where
  st : LSt w wr l n Q
  hg : w.heap.size + 1 < g
  rk : wr.rangeAt g 0 (byteCells K)
  tk : wr.there g 0 20

theorem KSt.lt {w wr : World} {l : List UInt8} {n : Nat} {Q : Nat → List UInt8 × ByteArray} {g : Nat} {K : List UInt8} (h : KSt w wr l n Q g K) : g < wr.heap.size := there_lt h.tk (by omega)

theorem kst_call {w wr w' : World} {l : List UInt8} {n : Nat} {Q : Nat → List UInt8 × ByteArray} {g : Nat} {K : List UInt8} (h : KSt w wr l n Q g K) (hB : Below wr.heap.size wr w') : KSt w w' l n Q g K :=
  ⟨lst_call h.st hB, h.hg, rangeAt_below hB h.lt h.rk, there_below hB h.lt h.tk⟩

theorem kst_alloc {w wr : World} {l : List UInt8} {n : Nat} {Q : Nat → List UInt8 × ByteArray} {g : Nat} {K : List UInt8} (h : KSt w wr l n Q g K) (o : Obj) : KSt w (wr.alloc o) l n Q g K :=
  kst_call h ((Below.refl _ _).alloc (Nat.le_refl _) o)

theorem kst_drew {w wr : World} {l : List UInt8} {n : Nat} {Q : Nat → List UInt8 × ByteArray} {g : Nat} {K : List UInt8} (h : KSt w wr l n Q g K) : KSt w wr.drew l n Q g K :=
  ⟨lst_drew h.st, h.hg, h.rk, h.tk⟩

theorem kst_far {w wr : World} {l : List UInt8} {n : Nat} {Q : Nat → List UInt8 × ByteArray} {g : Nat} {K : List UInt8} (h : KSt w wr l n Q g K) {g' : Nat} (h1 : w.heap.size + 1 < g') (h2 : g ≠ g') (o : Nat) (vs : List Value) : KSt w (wr.setCells g' o vs) l n Q g K :=
  ⟨lst_set h.st h1 o vs, h.hg, World.rangeAt_setCells_apart h.rk _ _ _ (.inl h2), World.there_setCells h.tk _ _ _⟩

theorem kst_set {w wr : World} {l : List UInt8} {n : Nat} {Q : Nat → List UInt8 × ByteArray} {g : Nat} {K : List UInt8} (h : KSt w wr l n Q g K) (K' : List UInt8) (hK : K'.length = 20) : KSt w (wr.setCells g 0 (byteCells K')) l n Q g K' :=
  ⟨lst_set h.st h.hg _ _, h.hg, World.rangeAt_setCells_same _ _ _ _ (by rw [byteCells_length, hK]; exact h.tk), World.there_setCells h.tk _ _ _⟩

end Go.Proofs.Ybulkdqnu
