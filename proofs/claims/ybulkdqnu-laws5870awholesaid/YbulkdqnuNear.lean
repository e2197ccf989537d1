import Derived.Test.YbulkdqnuKey
import Derived.Test.YbulkdqnuBet
namespace Go.Proofs.Ybulkdqnu
open Go.RowKit Ring
open Go.Lib (compareBytes byteCells byteCells_length)

theorem Yba.size27 : (Yba.prog.info? 27).map (·.size) = some 21 := by kernel_rfl

theorem pcells_one (q : List UInt8 × ByteArray) : ∀ v ∈ pcells q, v.oneCell' = true := fun v hv => by
  simp only [pcells, byteCells, List.mem_append, List.mem_map, List.mem_singleton] at hv
  rcases hv with ⟨b, _, rfl⟩ | rfl
  · rfl
  · rfl

theorem rangeAt_left {w : World} {b o : Nat} {xs ys : List Value} (h : w.rangeAt b o (xs ++ ys)) : w.rangeAt b o xs := fun j v hv => by
  refine h j v ?_
  have hj : j < xs.length := (List.getElem?_eq_some_iff.1 hv).1
  rw [List.getElem?_append_left hj]
  exact hv

theorem rangeAt_pid {w : World} {b o : Nat} {q : List UInt8 × ByteArray} (h : w.rangeAt b o (pcells q)) : w.rangeAt b o (byteCells q.1) := rangeAt_left h

theorem rangeAt_below {B : Nat} {w w' : World} (hB : Below B w w') {b o : Nat} {cs : List Value} (hb : b < B) (h : w.rangeAt b o cs) : w'.rangeAt b o cs := fun j v hv => by
  rw [hB.cell (p := ⟨b, o + j, none⟩) hb]
  exact h j v hv

theorem there_below {B : Nat} {w w' : World} (hB : Below B w w') {b o n : Nat} (hb : b < B) (h : w.there b o n) : w'.there b o n := fun j hj => by
  rw [hB.cell (p := ⟨b, o + j, none⟩) hb, hB.frozen (p := ⟨b, o + j, none⟩) hb]
  exact h j hj

theorem there_lt {w : World} {b o n : Nat} (h : w.there b o n) (hn : 0 < n) : b < w.heap.size := by
  obtain ⟨u, hu⟩ := Option.isSome_iff_exists.1 (h 0 hn).1
  exact World.block_lt_of_cell? w _ hu

theorem there_at {W : World} {g n : Nat} (hg : W.heap.size = g) (cs : Array Value) (t : TypeId) (h : cs.size = n) : (W.alloc (.cells cs t)).there g 0 n := by
  subst hg
  exact there_new W cs t n h

/-- The state of nearest's loop: the best so far lies in its variable. -/
structure NearSt (w wr : World) (l : List UInt8) (q : List UInt8 × ByteArray) : Prop where
  bel : Below w.heap.size w wr
  rid : wr.rangeAt w.heap.size 0 (byteCells l)
  tr : wr.there (w.heap.size + 1) 0 21
  tb : wr.there (w.heap.size + 1 + 1) 0 21
  rb : wr.rangeAt (w.heap.size + 1 + 1) 0 (pcells q)

theorem near_start (w : World) (l : List UInt8) (q : List UInt8 × ByteArray) (hq : (pcells q).length = 21) (Z : Array Value) (hZ : Z.size = 21) :
    NearSt w ((((w.alloc (Obj.cells (byteCells l).toArray 23)).alloc (Obj.cells Z 27)).alloc (Obj.cells Z 27)).setCells (w.heap.size + 1 + 1) 0 (pcells q)) l q := by
  have t2 := there_at (W := (w.alloc (Obj.cells (byteCells l).toArray 23)).alloc (Obj.cells Z 27)) (g := w.heap.size + 1 + 1) (by simp) Z 27 hZ
  have t1 := there_at (W := w.alloc (Obj.cells (byteCells l).toArray 23)) (g := w.heap.size + 1) (by simp) Z 27 hZ
  refine ⟨below_setCells ((((Below.refl _ _).alloc (Nat.le_refl _) _).alloc (by simp) _).alloc (by simp; omega) _) (by omega) _ _, ?_, World.there_setCells (World.there_alloc t1 _) _ _ _, World.there_setCells t2 _ _ _, World.rangeAt_setCells_same _ _ _ _ (by rw [hq]; exact t2)⟩
  exact World.rangeAt_setCells_apart (World.rangeAt_alloc (World.rangeAt_alloc (rangeAt_new w _ 23) _) _) _ _ _ (by omega)

theorem near_below {w wr w' : World} {l : List UInt8} {q : List UInt8 × ByteArray} (h : NearSt w wr l q) (hB : Below wr.heap.size wr w') : NearSt w w' l q := by
  have h2 := there_lt h.tb (by omega)
  exact ⟨h.bel.trans (hB.mono (by omega)), rangeAt_below hB (by omega) h.rid, there_below hB (by omega) h.tr, there_below hB (by omega) h.tb, rangeAt_below hB (by omega) h.rb⟩

theorem near_set {w wr : World} {l : List UInt8} {q q' : List UInt8 × ByteArray} (h : NearSt w wr l q) (hq : (pcells q').length = 21) : NearSt w (wr.setCells (w.heap.size + 1 + 1) 0 (pcells q')) l q' :=
  ⟨below_setCells h.bel (by omega) _ _, World.rangeAt_setCells_apart h.rid _ _ _ (by omega), World.there_setCells h.tr _ _ _, World.there_setCells h.tb _ _ _, World.rangeAt_setCells_same _ _ _ _ (by rw [hq]; exact h.tb)⟩

set_option maxRecDepth 1000000 in
set_option maxHeartbeats 1000000 in
theorem near_walk (w : World) (l : List UInt8) (hl : l.length = 20) (b off m c : Nat) (Q : Nat → List UInt8 × ByteArray) (hnc : m + 1 ≤ c) (hc : c ≤ 9223372036854775807) (hc1 : ¬ c = 1) (hQ : ∀ i, i < m + 1 → w.rangeAt b (off + i * 21) (pcells (Q i))) (hQl : ∀ i, i < m + 1 → (Q i).1.length = 20) :
    Calls Yba.prog 6 #[.agg (byteCells l).toArray, .slice (some ⟨b, off, none⟩) (m + 1) c] w fun e w' => e = .returned (.agg (pcells (Q (bestI (fun i j => bet (Q i).1 l (Q j).1) m))).toArray) ∧ Below w.heap.size w w' := by
  have R0 := hQ 0 (by omega)
  rw [Nat.zero_mul, Nat.add_zero] at R0
  have L0 := pcells_length (Q 0) (hQl 0 (by omega))
  have hb : b < w.heap.size := World.block_lt_of_cell? w _ (R0 0 _ (List.getElem?_eq_getElem (by omega)))
  have hnz : (0 : Int) < (m : Int) + 1 := by omega
  generalize hcc : (fun i j => bet (Q i).1 l (Q j).1) = cc
  have Hcc := hideIt hcc
  clear hcc
  go_enter Yba.func6, Yba.ntmps6
  go_wp2_with (first
    | (refine wpList_load_mid rfl 27 (.tmp 9) rfl b off rfl (pcells (Q 0)) _ (by exact World.rangeAt_alloc (World.rangeAt_alloc R0 _) _) Yba.underlying27 rfl (by rw [Yba.size27, L0]) ?_)
    | (refine wpList_store_mid rfl 27 (.tmp 5) (.tmp 10) rfl (w.heap.size + 1 + 1) 0 (pcells (Q 0)).toArray rfl rfl (by exact there_at (by simp) _ 27 (by simp [L0])) (by rw [Yba.size27]; simp [L0]) (all_oneCell_toArray (pcells_one _)) ?_))
  go_loopg [14] m (fun g s14 wr => ∃ j : Nat, j ≤ m ∧ g = m - j ∧ s14 = .int .i64 j ∧ NearSt w wr l (Q (bestI cc j)))
  case atStart => exact ⟨0, Nat.zero_le _, rfl, rfl, near_start w l (Q 0) L0 _ rfl⟩
  case round =>
    obtain ⟨j, hj, rfl, rfl, hS⟩ := hrel
    have hbl := bestI_le cc j
    by_cases hjm : j < m
    · have hjz : (j : Int) < (m : Int) := by omega
      have Rj : wr.rangeAt b (off + 21 + j * 21) (pcells (Q (j + 1))) := by
        have h := rangeAt_below hS.bel hb (hQ (j + 1) (by omega))
        rw [show off + (j + 1) * 21 = off + 21 + j * 21 by omega] at h
        exact h
      have Lj := pcells_length (Q (j + 1)) (hQl (j + 1) (by omega))
      have HBS := hideIt (show bestI cc (j + 1) = if cc (j + 1) (bestI cc j) then j + 1 else bestI cc j from rfl)
      generalize bestI cc j = bj at *
      have Lb := pcells_length (Q bj) (hQl bj (by omega))
      go_upto_region 4 with fail
      go_cut [7] (fun s7 wx => s7 = .pointer (some ⟨wr.heap.size, 0, none⟩) ∧ NearSt w wx l (Q bj) ∧ wx.rangeAt wr.heap.size 0 (pcells (Q (j + 1))))
      case first =>
        go_wp2_with (first
          | (refine wpList_load_mid rfl 27 (.tmp 16) rfl b (off + 21 + j * 21) rfl (pcells (Q (j + 1))) _ (by exact Rj) Yba.underlying27 rfl (by rw [Yba.size27, Lj]) ?_)
          | (refine wpList_store_mid rfl 27 (.tmp 7) (.tmp 17) rfl wr.heap.size 0 (pcells (Q (j + 1))).toArray rfl rfl (by exact there_at rfl _ 27 (by simp [Lj])) (by rw [Yba.size27]; simp [Lj]) (all_oneCell_toArray (pcells_one _)) ?_))
        go_meet
        go_light
        refine ⟨rfl, near_below hS (below_setCells ((Below.refl _ _).alloc (Nat.le_refl _) _) (Nat.le_refl _) _ _), World.rangeAt_setCells_same _ _ _ _ (there_at rfl _ 27 (by simp [Lj]))⟩
      case rest =>
        obtain ⟨rfl, hS2, rp⟩ := hcut
        clear Rj hS
        generalize wr.heap.size = g at *
        have rp1 := rangeAt_pid rp
        have rb1 := rangeAt_pid hS2.rb
        have hbw := between_walk wc (Q (j + 1)).1 l (Q bj).1 (hQl _ (by omega)) hl (hQl _ (by omega))
        have ecc : bet (Q (j + 1)).1 l (Q bj).1 = cc (j + 1) bj := by rw [← Hcc.out]
        rw [ecc] at hbw
        clear ecc
        have Hbw := hideIt hbw
        clear hbw
        go_wp2_with (first
          | (refine wpList_load_mid rfl 23 (.tmp 18) rfl g 0 rfl (byteCells (Q (j + 1)).1) _ (by exact rp1) Yba.underlying23 rfl (by rw [Yba.size23, byteCells_length, hQl _ (by omega)]) ?_)
          | (refine wpList_load_mid rfl 23 (.tmp 2) rfl w.heap.size 0 rfl (byteCells l) _ (by exact hS2.rid) Yba.underlying23 rfl (by rw [Yba.size23, byteCells_length, hl]) ?_)
          | (refine wpList_load_mid rfl 23 (.tmp 21) rfl (w.heap.size + 1 + 1) 0 rfl (byteCells (Q bj).1) _ (by exact rb1) Yba.underlying23 rfl (by rw [Yba.size23, byteCells_length, hQl _ (by omega)]) ?_))
        refine Hbw.out.mono ?_
        rintro e w2 ⟨rfl, hB2⟩
        have hg : g < wc.heap.size := World.block_lt_of_cell? wc _ (rp 0 _ (List.getElem?_eq_getElem (by omega)))
        have hS3 := near_below hS2 hB2
        have rp3 := rangeAt_below hB2 hg rp
        clear hS2 rp rp1 rb1 Hbw hB2 hg
        cases hcb : cc (j + 1) bj
        · go_wp2
          go_roundg (m - (j + 1))
          case measure => go_light; omega
          case rel =>
            go_light
            refine ⟨j + 1, by omega, rfl, by simp, ?_⟩
            rw [HBS.out, if_neg (by simp [hcb])]
            exact hS3
        · go_wp2_with (first
            | (refine wpList_load_mid rfl 27 (.tmp 7) rfl g 0 rfl (pcells (Q (j + 1))) _ (by exact rp3) Yba.underlying27 rfl (by rw [Yba.size27, Lj]) ?_)
            | (refine wpList_store_mid rfl 27 (.tmp 5) (.tmp 24) rfl (w.heap.size + 1 + 1) 0 (pcells (Q (j + 1))).toArray rfl rfl (by simpa [Lj] using hS3.tb) (by rw [Yba.size27]; simp [Lj]) (all_oneCell_toArray (pcells_one _)) ?_))
          go_roundg (m - (j + 1))
          case measure => go_light; omega
          case rel =>
            go_light
            refine ⟨j + 1, by omega, rfl, by simp, ?_⟩
            rw [HBS.out, if_pos hcb]
            exact near_set hS3 Lj
    · obtain rfl : j = m := by omega
      have hjz : ¬ (j : Int) < (j : Int) := by omega
      obtain ⟨bj, hbj⟩ : ∃ bj, bj = bestI cc j := ⟨_, rfl⟩
      rw [← hbj] at hS hbl
      have Hbj := hideIt hbj
      clear hbj
      have Lb := pcells_length (Q bj) (hQl bj (by omega))
      go_wp2_with (first
        | (refine wpList_load_mid rfl 27 (.tmp 5) rfl (w.heap.size + 1 + 1) 0 rfl (pcells (Q bj)) _ (by exact hS.rb) Yba.underlying27 rfl (by rw [Yba.size27, Lb]) ?_)
        | (refine wpList_store_mid rfl 27 (.tmp 4) (.tmp 26) rfl (w.heap.size + 1) 0 (pcells (Q bj)).toArray rfl rfl (by simpa [Lb] using hS.tr) (by rw [Yba.size27]; simp [Lb]) (all_oneCell_toArray (pcells_one _)) ?_))
      have hth : wr.there (w.heap.size + 1) 0 (pcells (Q bj)).length := by rw [Lb]; exact hS.tr
      have R2 := World.rangeAt_setCells_same wr (w.heap.size + 1) 0 (pcells (Q bj)) hth
      have hld := run_loadVar_mid (P := Yba.prog) _ (w.heap.size + 1) 0 27 (pcells (Q bj)) _ R2 Yba.underlying27 rfl (by rw [Yba.size27, Lb])
      refine bodyPost_ret (v := .agg (pcells (Q bj)).toArray) ?_ rfl ⟨by rw [Hbj.out], ?_⟩
      · rw [results_cell1 Yba.results6]
        simp [asAddr, Result.andThen, hld]
      · exact below_setCells hS.bel (by omega) _ _

set_option maxRecDepth 1000000 in
set_option maxHeartbeats 1000000 in
theorem near_walk1 (w : World) (l : List UInt8) (b off : Nat) (q : List UInt8 × ByteArray) (R0 : w.rangeAt b off (pcells q)) (hq : q.1.length = 20) :
    Calls Yba.prog 6 #[.agg (byteCells l).toArray, .slice (some ⟨b, off, none⟩) 1 1] w fun e w' => e = .returned (.agg (pcells q).toArray) ∧ Below w.heap.size w w' := by
  have L0 := pcells_length q hq
  go_enter Yba.func6, Yba.ntmps6
  go_wp2_with (first
    | (refine wpList_load_mid rfl 27 (.tmp 9) rfl b off rfl (pcells q) _ (by exact World.rangeAt_alloc (World.rangeAt_alloc R0 _) _) Yba.underlying27 rfl (by rw [Yba.size27, L0]) ?_)
    | (refine wpList_store_mid rfl 27 (.tmp 5) (.tmp 10) rfl (w.heap.size + 1 + 1) 0 (pcells q).toArray rfl rfl (by exact there_at (by simp) _ 27 (by simp [L0])) (by rw [Yba.size27]; simp [L0]) (all_oneCell_toArray (pcells_one _)) ?_))
  go_loopg [14] 0 (fun _ s14 wr => s14 = .int .i64 0 ∧ NearSt w wr l q)
  case atStart => exact ⟨rfl, near_start w l q L0 _ rfl⟩
  case round =>
    obtain ⟨rfl, hS⟩ := hrel
    go_wp2_with (first
      | (refine wpList_load_mid rfl 27 (.tmp 5) rfl (w.heap.size + 1 + 1) 0 rfl (pcells q) _ (by exact hS.rb) Yba.underlying27 rfl (by rw [Yba.size27, L0]) ?_)
      | (refine wpList_store_mid rfl 27 (.tmp 4) (.tmp 26) rfl (w.heap.size + 1) 0 (pcells q).toArray rfl rfl (by simpa [L0] using hS.tr) (by rw [Yba.size27]; simp [L0]) (all_oneCell_toArray (pcells_one _)) ?_))
    have hth : wr.there (w.heap.size + 1) 0 (pcells q).length := by rw [L0]; exact hS.tr
    have R2 := World.rangeAt_setCells_same wr (w.heap.size + 1) 0 (pcells q) hth
    have hld := run_loadVar_mid (P := Yba.prog) _ (w.heap.size + 1) 0 27 (pcells q) _ R2 Yba.underlying27 rfl (by rw [Yba.size27, L0])
    refine bodyPost_ret (v := .agg (pcells q).toArray) ?_ rfl ⟨rfl, ?_⟩
    · rw [results_cell1 Yba.results6]
      simp [asAddr, Result.andThen, hld, Act.put]
    · exact below_setCells hS.bel (by omega) _ _

/-- nearest, whatever the capacity. -/
theorem near_any (w : World) (l : List UInt8) (hl : l.length = 20) (b off m c : Nat) (Q : Nat → List UInt8 × ByteArray) (hnc : m + 1 ≤ c) (hc : c ≤ 9223372036854775807) (hQ : ∀ i, i < m + 1 → w.rangeAt b (off + i * 21) (pcells (Q i))) (hQl : ∀ i, i < m + 1 → (Q i).1.length = 20) :
    Calls Yba.prog 6 #[.agg (byteCells l).toArray, .slice (some ⟨b, off, none⟩) (m + 1) c] w fun e w' => e = .returned (.agg (pcells (Q (bestI (fun i j => bet (Q i).1 l (Q j).1) m))).toArray) ∧ Below w.heap.size w w' := by
  by_cases hc1 : c = 1
  · subst hc1
    obtain rfl : m = 0 := by omega
    have h := hQ 0 (by omega)
    rw [Nat.zero_mul, Nat.add_zero] at h
    exact near_walk1 w l b off (Q 0) h (hQl 0 (by omega))
  · exact near_walk w l hl b off m c Q hnc hc hc1 hQ hQl

end Go.Proofs.Ybulkdqnu
