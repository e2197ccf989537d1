import Derived.Test.YbulkdqnuLess
import Derived.Deep.OwnRows
import Derived.Laws.ResultCell
namespace Go.Proofs.Ybulkdqnu
open Go.RowKit Ring
open Go.Lib (compareBytes byteCells byteCells_length)

def bor (l m : List UInt8) (t : Nat) : Int := (keyB (l.drop t) (m.drop t)).1
def dig (l m : List UInt8) (t : Nat) : Int := at8 (keyB (l.drop t) (m.drop t)).2 0

theorem bor_bd (l m : List UInt8) (t : Nat) : 0 ≤ bor l m t ∧ bor l m t ≤ 1 := by
  have := keyB_bd (l.drop t) (m.drop t)
  unfold bor
  omega

theorem at8_get {l : List UInt8} {k : Nat} (h : k < l.length) : at8 l k = (l[k].toNat : Int) := by simp [at8, h]

theorem bor_step {l m : List UInt8} {t : Nat} (hl : t < l.length) (hm : t < m.length) :
    bor l m t = if at8 m t - at8 l t - bor l m (t + 1) < 0 then 1 else 0 := by
  unfold bor
  rw [List.drop_eq_getElem_cons hl, List.drop_eq_getElem_cons hm, keyB, at8_get hl, at8_get hm]

theorem dig_step {l m : List UInt8} {t : Nat} (hl : t < l.length) (hm : t < m.length) :
    dig l m t = if at8 m t - at8 l t - bor l m (t + 1) < 0 then at8 m t - at8 l t - bor l m (t + 1) + 256 else at8 m t - at8 l t - bor l m (t + 1) := by
  have b1 := at8_bd l t
  have b2 := at8_bd m t
  have b3 := bor_bd l m (t + 1)
  have e : dig l m t = (((if at8 m t - at8 l t - bor l m (t + 1) < 0 then at8 m t - at8 l t - bor l m (t + 1) + 256 else at8 m t - at8 l t - bor l m (t + 1)).toNat.toUInt8).toNat : Int) := by
    unfold dig bor
    rw [List.drop_eq_getElem_cons hl, List.drop_eq_getElem_cons hm, keyB, at8_get hl, at8_get hm]
    simp [at8]
  rw [e]
  split
  · exact digit (by omega) (by omega)
  · exact digit (by omega) (by omega)

theorem keyB_drop : ∀ (t : Nat) (l m : List UInt8), l.length = m.length → (keyB l m).2.drop t = (keyB (l.drop t) (m.drop t)).2
  | 0, _, _, _ => rfl
  | t + 1, [], [], _ => by simp [keyB]
  | t + 1, a :: l, b :: m, h => by
    have hl : l.length = m.length := by simpa using h
    rw [keyB]
    simp only [List.drop_succ_cons]
    exact keyB_drop t l m hl

theorem key_dig {l m : List UInt8} (h : l.length = m.length) (t : Nat) : at8 (key l m) t = dig l m t := by
  unfold dig key
  rw [← keyB_drop t l m h]
  simp [at8]

/-- The state of the key's loop: k digits are still to be made. -/
structure KeySt (w wr : World) (l m : List UInt8) (k : Nat) : Prop where
  bel : w.Since w.heap.size wr
  r0 : wr.rangeAt w.heap.size 0 (byteCells l)
  r1 : wr.rangeAt (w.heap.size + 1) 0 (byteCells m)
  th : wr.there (w.heap.size + 1 + 1) 0 20
  row : wr.rowIs (w.heap.size + 1 + 1 + 1) 23 20 (fun t => .int .u8 (if t < k then 0 else dig l m t))

theorem rangeAt_setCell {w : World} {b o : Nat} {cs : List Value} (h : w.rangeAt b o cs) {a : Addr} (ha : b ≠ a.block) (v : Value) : (w.setCell a v).rangeAt b o cs := fun j u hu => by
  rw [World.cell?_setCell_other _ _ _ _ (fun e => ha (by rw [e]))]
  exact h j u hu

theorem there_setCell {w : World} {b o n : Nat} (h : w.there b o n) {a : Addr} (ha : b ≠ a.block) (v : Value) : (w.setCell a v).there b o n := fun j hj => by
  obtain ⟨h1, h2⟩ := h j hj
  refine ⟨by rw [World.cell?_setCell_other _ _ _ _ (fun e => ha (by rw [e]))]; exact h1, ?_⟩
  rw [World.frozen?_setCell]; exact h2

theorem keyst_step {w wr : World} {l m : List UInt8} {k : Nat} (h : KeySt w wr l m (k + 1)) {v : Int} (hv : v = dig l m k) :
    KeySt w (wr.setCell ⟨w.heap.size + 1 + 1 + 1, k, none⟩ (.int .u8 v)) l m k := by
  refine ⟨h.bel.setCell (by show w.heap.size ≤ w.heap.size + 1 + 1 + 1; omega) _, rangeAt_setCell h.r0 (by show w.heap.size ≠ w.heap.size + 1 + 1 + 1; omega) _, rangeAt_setCell h.r1 (by show w.heap.size + 1 ≠ w.heap.size + 1 + 1 + 1; omega) _,
    there_setCell h.th (by show w.heap.size + 1 + 1 ≠ w.heap.size + 1 + 1 + 1; omega) _, (h.row.set k _).congr (fun t _ => ?_)⟩
  by_cases e : t = k
  · subst e
    rw [if_pos rfl, if_neg (by omega), hv]
  · rw [if_neg e]
    by_cases e2 : t < k
    · rw [if_pos (by omega), if_pos e2]
    · rw [if_neg (by omega), if_neg e2]

theorem keyst_drew {w wr : World} {l m : List UInt8} {k : Nat} (h : KeySt w wr l m k) (n : Nat) : KeySt w (wr.drewN n) l m k :=
  ⟨⟨h.bel.os, h.bel.tape, h.bel.output, h.bel.size, h.bel.block⟩, h.r0, h.r1, h.th, h.row⟩

theorem keyst_full {w wr : World} {l m : List UInt8} (hl : l.length = 20) (hm : m.length = 20) (h : KeySt w wr l m 0) : wr.rangeAt (w.heap.size + 1 + 1 + 1) 0 (byteCells (key l m)) := fun j v hv => by
  have hlen : (key l m).length = 20 := by rw [key_len _ _ (by omega), hl]
  have hj : j < 20 := by
    have := (List.getElem?_eq_some_iff.1 hv).1
    rw [byteCells_length, hlen] at this
    exact this
  rw [Nat.zero_add, h.row.cell hj, if_neg (by omega), ← key_dig (by omega)]
  rw [byteCells_at _ (by omega)] at hv
  exact hv

theorem there_new (w : World) (cs : Array Value) (t : TypeId) (n : Nat) (h : cs.size = n) : (w.alloc (.cells cs t)).there w.heap.size 0 n := fun j hj => by
  constructor
  · rw [cell_of_row _ _ (0 + j) cs t (0, 0) (heap_alloc_last w _)]
    simp
    omega
  · have h := heap_alloc_last w (.cells cs t)
    simp only [World.frozen?, h]
    simp

theorem keyst_start (w : World) (l m : List UInt8) (Z : Array Value) (hZ : Z.size = 20) (hz : ∀ i, i < Z.size → Z[i]? = some (.int .u8 0)) :
    KeySt w ((((w.alloc (Obj.cells (byteCells l).toArray 23)).alloc (Obj.cells (byteCells m).toArray 23)).alloc (.cells Z 23)).alloc (.cells Z 23)) l m 20 := by
  refine ⟨((((World.Since.refl _ _).alloc (Nat.le_refl _) _).alloc (by simp) _).alloc (by simp; omega) _).alloc (by simp; omega) _, World.rangeAt_alloc (World.rangeAt_alloc (World.rangeAt_alloc (rangeAt_new w _ 23) _) _) _, ?_, ?_, ?_⟩
  · have h := rangeAt_new (w.alloc (Obj.cells (byteCells l).toArray 23)) (byteCells m) 23
    simp only [World.size_alloc] at h
    exact World.rangeAt_alloc (World.rangeAt_alloc h _) _
  · have h := there_new ((w.alloc (Obj.cells (byteCells l).toArray 23)).alloc (Obj.cells (byteCells m).toArray 23)) Z 23 20 hZ
    simp only [World.size_alloc] at h
    exact World.there_alloc h _
  · have h := World.rowIs_alloc (((w.alloc (Obj.cells (byteCells l).toArray 23)).alloc (Obj.cells (byteCells m).toArray 23)).alloc (.cells Z 23)) Z 23 (fun _ => .int .u8 0) hz
    simp only [World.size_alloc, hZ] at h
    exact h.congr (fun t ht => by rw [if_pos ht])

theorem zero20 : ∀ i, i < (#[Value.int IntKind.u8 0, Value.int IntKind.u8 0, Value.int IntKind.u8 0, Value.int IntKind.u8 0,
          Value.int IntKind.u8 0, Value.int IntKind.u8 0, Value.int IntKind.u8 0, Value.int IntKind.u8 0,
          Value.int IntKind.u8 0, Value.int IntKind.u8 0, Value.int IntKind.u8 0, Value.int IntKind.u8 0,
          Value.int IntKind.u8 0, Value.int IntKind.u8 0, Value.int IntKind.u8 0, Value.int IntKind.u8 0,
          Value.int IntKind.u8 0, Value.int IntKind.u8 0, Value.int IntKind.u8 0, Value.int IntKind.u8 0] : Array Value).size → (#[Value.int IntKind.u8 0, Value.int IntKind.u8 0, Value.int IntKind.u8 0, Value.int IntKind.u8 0,
          Value.int IntKind.u8 0, Value.int IntKind.u8 0, Value.int IntKind.u8 0, Value.int IntKind.u8 0,
          Value.int IntKind.u8 0, Value.int IntKind.u8 0, Value.int IntKind.u8 0, Value.int IntKind.u8 0,
          Value.int IntKind.u8 0, Value.int IntKind.u8 0, Value.int IntKind.u8 0, Value.int IntKind.u8 0,
          Value.int IntKind.u8 0, Value.int IntKind.u8 0, Value.int IntKind.u8 0, Value.int IntKind.u8 0] : Array Value)[i]? = some (.int .u8 0) := by
  intro i hi
  have hi' : i < 20 := hi
  match i, hi' with
  | 0, _ => rfl
  | 1, _ => rfl
  | 2, _ => rfl
  | 3, _ => rfl
  | 4, _ => rfl
  | 5, _ => rfl
  | 6, _ => rfl
  | 7, _ => rfl
  | 8, _ => rfl
  | 9, _ => rfl
  | 10, _ => rfl
  | 11, _ => rfl
  | 12, _ => rfl
  | 13, _ => rfl
  | 14, _ => rfl
  | 15, _ => rfl
  | 16, _ => rfl
  | 17, _ => rfl
  | 18, _ => rfl
  | 19, _ => rfl
  | n + 20, h => exact absurd h (by omega)

theorem below_of_since {B : Nat} {w w' : World} (h : w.Since B w') : Below B w w' := ⟨h.os, h.tape, h.output, h.size, h.block⟩

theorem below_setCells {B : Nat} {w w' : World} (h : Below B w w') {b : Nat} (hb : B ≤ b) : ∀ (o : Nat) (vs : List Value), Below B w (w'.setCells b o vs) := by
  intro o vs
  induction vs generalizing o w' with
  | nil => exact h
  | cons v vs ih =>
    rw [World.setCells]
    exact ih (h.setCell hb v) (o + 1)

theorem results_cell1 {fn : Func} {p : Tmp} {ty : TypeId} (h : fn.results = #[.cell p ty]) (tmps : Array Value) (P : Program) (w : World) :
    (results fn tmps).run P w = ((asAddr (tmps.getD p undef)).run P w).andThen fun a w₁ => (loadVar ty a).run P w₁ := by
  simp only [results, h]
  simp [Sem.run_bind, Result.andThen]

set_option maxRecDepth 1000000 in
set_option maxHeartbeats 1000000 in
theorem key_walk (w : World) (l m : List UInt8) (hl : l.length = 20) (hm : m.length = 20) :
    Calls Yba.prog 4 #[.agg (byteCells l).toArray, .agg (byteCells m).toArray] w fun e w' => e = .returned (.agg (byteCells (key l m)).toArray) ∧ Below w.heap.size w w' := by
  go_enter Yba.func4, Yba.ntmps4
  go_wp2_with fail
  go_loopg [6, 7] 20 (fun g s6 s7 wr => ∃ (k : Nat) (z : Int), k ≤ 20 ∧ g = k ∧ z = (k : Int) - 1 ∧ s7 = .int .i64 z ∧ s6 = .int .i64 (bor l m k) ∧ KeySt w wr l m k)
  case atStart =>
    refine ⟨20, 19, Nat.le_refl _, rfl, rfl, rfl, ?_, keyst_start w l m _ rfl zero20⟩
    unfold bor
    rw [List.drop_of_length_le (by omega), List.drop_of_length_le (by omega)]
    rfl
  case round =>
    obtain ⟨k, z, hk, rfl, hz, rfl, rfl, hS⟩ := hrel
    cases gk with
    | zero =>
      obtain rfl : z = -1 := by omega
      clear hz
      have R := keyst_full hl hm hS
      have hlen : (byteCells (key l m)).length = 20 := by rw [byteCells_length, key_len _ _ (by omega), hl]
      have hone : ∀ v ∈ byteCells (key l m), v.oneCell' = true := fun v hv => by
        simp only [byteCells, List.mem_map] at hv
        obtain ⟨b, _, rfl⟩ := hv
        rfl
      go_wp2_with (first
        | (refine wpList_load_mid rfl 23 (.tmp 5) rfl (w.heap.size + 1 + 1 + 1) 0 rfl (byteCells (key l m)) _ R Yba.underlying23 rfl (by rw [Yba.size23, hlen]) ?_)
        | (refine wpList_store_mid rfl 23 (.tmp 4) (.tmp 32) rfl (w.heap.size + 1 + 1) 0 (byteCells (key l m)).toArray rfl rfl (by simpa [hlen] using hS.th) (by rw [Yba.size23]; simp [hlen]) (all_oneCell_toArray hone) ?_))
      have hth : wr.there (w.heap.size + 1 + 1) 0 (byteCells (key l m)).length := by rw [hlen]; exact hS.th
      have R2 := World.rangeAt_setCells_same wr (w.heap.size + 1 + 1) 0 (byteCells (key l m)) hth
      have hld := run_loadVar_mid (P := Yba.prog) _ (w.heap.size + 1 + 1) 0 23 (byteCells (key l m)) _ R2 Yba.underlying23 rfl (by rw [Yba.size23, hlen])
      refine bodyPost_ret (v := .agg (byteCells (key l m)).toArray) ?_ rfl ⟨rfl, ?_⟩
      · rw [results_cell1 Yba.results4]
        simp [asAddr, Result.andThen, hld, Act.put]
      · exact below_setCells (below_of_since hS.bel) (by omega) _ _
    | succ t =>
      obtain rfl : z = (t : Int) := by omega
      clear hz
      have b1 := at8_bd l t
      have b2 := at8_bd m t
      have b3 := bor_bd l m (t + 1)
      have HS := hideIt (bor_step (l := l) (m := m) (t := t) (by omega) (by omega))
      have HD := hideIt (dig_step (l := l) (m := m) (t := t) (by omega) (by omega))
      generalize bor l m (t + 1) = bw at *
      have c0 := range_at hS.r0 (k := t) (by omega)
      have c1 := range_at hS.r1 (k := t) (by omega)
      rw [Nat.zero_add] at c0 c1
      have c2 := hS.row.cell (i := t) (by omega)
      rw [if_pos (by omega)] at c2
      have c3 := hS.row.frozen t
      have htz : (0 : Int) ≤ (t : Int) := by omega
      have htz2 : (t : Int) < 20 := by omega
      by_cases hv : at8 m t - at8 l t - bw < 0
      · go_wp2_with fail
        go_quiet (fail)
        go_wp2
        go_roundg t
        case measure => go_light; omega
        case rel =>
          go_light
          refine ⟨t, _, by omega, rfl, ?_, rfl, ?_, keyst_step (keyst_drew hS nq) ?_⟩
          · omega
          · rw [HS.out, if_pos hv]
          · rw [HD.out, if_pos hv]
      · go_wp2_with fail
        go_quiet (fail)
        go_wp2
        go_roundg t
        case measure => go_light; omega
        case rel =>
          go_light
          refine ⟨t, _, by omega, rfl, ?_, rfl, ?_, keyst_step (keyst_drew hS nq) ?_⟩
          · omega
          · rw [HS.out, if_neg (by omega)]
          · rw [HD.out, if_neg (by omega)]
end Go.Proofs.Ybulkdqnu
