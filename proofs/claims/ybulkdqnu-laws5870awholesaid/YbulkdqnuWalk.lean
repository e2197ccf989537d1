import Derived.Test.YbulkdqnuMem
import Derived.Lib.BufferWrite
namespace Go.Proofs.Ybulkdqnu
open Go.RowKit Ring
open Go.Lib (compareBytes byteCells byteCells_length byteCells_one)

set_option linter.unusedSimpArgs false in
set_option maxRecDepth 1000000 in
set_option maxHeartbeats 40000000 in
theorem law_walk (w : World) (l : List UInt8) (hl : l.length = 20) (b off m c : Nat) (Q : Nat → List UInt8 × ByteArray) (hm : m + 1 ≤ 1048576) (hnc : m + 1 ≤ c) (hc : c ≤ 9223372036854775807) (hQ : ∀ i, i < m + 1 → w.rangeAt b (off + i * 21) (pcells (Q i))) (hQl : ∀ i, i < m + 1 → (Q i).1.length = 20) (hQs : ∀ i, i < m + 1 → (Q i).2.size ≤ maxLen) :
    Calls Yba.prog 3 #[.agg (byteCells l).toArray, .slice (some ⟨b, off, none⟩) (m + 1) c] w fun e w' => e = .returned (.bool true) ∧ Below w.heap.size w w' := by
  have R0 := hQ 0 (by omega)
  rw [Nat.zero_mul, Nat.add_zero] at R0
  have L0 := pcells_length (Q 0) (hQl 0 (by omega))
  have hb : b < w.heap.size := World.block_lt_of_cell? w _ (R0 0 _ (List.getElem?_eq_getElem (by omega)))
  obtain ⟨Z, hZ, hmk⟩ := make24 (m + 1) hm
  have ec : ((m + 1 : Nat) : Int) = (m : Int) + 1 := by omega
  rw [ec] at hmk
  clear ec
  have g0 : ((m : Int) + 1 == 0) = false := by simp; omega
  have g1 : decide ((1048576 : Int) < (m : Int) + 1) = false := by simp; omega
  have hall := allc_of (m + 1) hQl hQ
  have hlen := allc_length Q (m + 1) hQl
  go_enter Yba.func3, Yba.ntmps3
  go_wp2_with (first
    | (refine wpList_copy21 rfl (.tmp 24) (.tmp 25) rfl (w.heap.size + 1) 0 (m + 1) (m + 1) ⟨b, off, none⟩ c rfl rfl (allc Q (m + 1)) hlen (by intro j v hv; rw [Addr.add_mid]; exact World.rangeAt_alloc (World.rangeAt_alloc hall _) _ j v hv) (by exact there_at (by simp) _ 27 hZ) (allc_one Q _) ?_))
  have hL := lst_start w l (m + 1) Q hQl Z hZ
  generalize ((w.alloc (Obj.cells (byteCells l).toArray 23)).alloc (Obj.cells Z 27)).setCells (w.heap.size + 1) 0 (allc Q (m + 1)) = wx at *
  clear hall hlen hmk
  have hu := Yba.underlying23
  have hi0 : (Yba.prog.info? 23).map (·.size) = some (byteCells l).length := by rw [Yba.size23, byteCells_length, hl]
  have hi1 : (Yba.prog.info? 23).map (·.size) = some (byteCells (Q 0).1).length := by rw [Yba.size23, byteCells_length, hQl 0 (by omega)]
  have hk0 := key_len l (Q 0).1 (by rw [hl, hQl 0 (by omega)])
  have hi2 : (Yba.prog.info? 23).map (·.size) = some (byteCells (key l (Q 0).1)).length := by rw [Yba.size23, byteCells_length, hk0, hl]
  have hlk : (byteCells (key l (Q 0).1)).length = 20 := by rw [byteCells_length, hk0, hl]
  have hok : ∀ v ∈ byteCells (key l (Q 0).1), v.oneCell' = true := byteCells_one _
  have hLd := lst_drew hL
  clear hk0
  go_cut [7] (fun s7 wy => ∃ g, s7 = .pointer (some ⟨g, 0, none⟩) ∧ LSt w wy l (m + 1) Q ∧ w.heap.size + 1 < g ∧ wy.rangeAt g 0 (byteCells (key l (Q 0).1)) ∧ wy.there g 0 20)
  case first =>
    refine wp_region_held_drew (S := fun w' => LSt w w' l (m + 1) Q) (by kernel_rfl) hLd (fun hHeld => ?_)
    refine wpAnyH_take (i := 0) rfl (by kernel_rfl) (by kernel_rfl) (by kernel_rfl) (fun _ _ _ h => h) (yieldsIf_load_mid (by rfl) 23 (.tmp 2) rfl w.heap.size 0 rfl (byteCells l) _ (fun w' h => h.rid) Yba.underlying23 rfl hi0) hHeld ?_
    try simp only [List.getElem_toArray, List.getElem_cons_zero, List.getElem_cons_succ, Act.put, List.setIfInBounds_toArray, List.set_cons_zero, List.set_cons_succ]
    refine wpAnyH_take (i := 1) (v := .slice (some ⟨w.heap.size + 1, 0, none⟩) (m + 1) (m + 1)) rfl (by kernel_rfl) (by kernel_rfl) (by kernel_rfl) (fun _ _ _ h => h) (Or.inl ⟨by rfl, fun w' _ => by go_simp⟩) hHeld ?_
    try simp only [List.getElem_toArray, List.getElem_cons_zero, List.getElem_cons_succ, Act.put, List.setIfInBounds_toArray, List.set_cons_zero, List.set_cons_succ]
    refine wpAnyH_take (i := 2) (v := .pointer (some ⟨w.heap.size + 1, 0, none⟩)) rfl (by kernel_rfl) (by kernel_rfl) (by kernel_rfl) (fun _ _ _ h => h) (Or.inl ⟨by rfl, fun w' _ => by go_simp⟩) hHeld ?_
    try simp only [List.getElem_toArray, List.getElem_cons_zero, List.getElem_cons_succ, Act.put, List.setIfInBounds_toArray, List.set_cons_zero, List.set_cons_succ]
    refine wpAnyH_take (i := 3) (v := .pointer (some ⟨w.heap.size + 1, 0, none⟩)) rfl (by kernel_rfl) (by kernel_rfl) (by kernel_rfl) (fun _ _ _ h => h) (Or.inl ⟨by rfl, fun w' _ => by go_simp⟩) hHeld ?_
    try simp only [List.getElem_toArray, List.getElem_cons_zero, List.getElem_cons_succ, Act.put, List.setIfInBounds_toArray, List.set_cons_zero, List.set_cons_succ]
    refine wpAnyH_take (i := 4) rfl (by kernel_rfl) (by kernel_rfl) (by kernel_rfl) (fun _ _ _ h => h) (yieldsIf_load_mid (by rfl) 23 (.tmp 30) rfl (w.heap.size + 1) 0 rfl (byteCells (Q 0).1) _ (fun w' h => by have := rangeAt_pid (h.rq 0 (by omega)); rw [Nat.zero_mul] at this; exact this) Yba.underlying23 rfl hi1) hHeld ?_
    try simp only [List.getElem_toArray, List.getElem_cons_zero, List.getElem_cons_succ, Act.put, List.setIfInBounds_toArray, List.set_cons_zero, List.set_cons_succ]
    refine wpAnyH_ready (rs := [5, 6]) (by kernel_rfl) (by simp) ?_
    refine AllReadyH.cons rfl (fun K hK => ?_) (AllReadyH.cons rfl (fun K hK => ?_) AllReadyH.nil)
    · go_simp
      refine (key_walk wx.drew l (Q 0).1 hl (hQl 0 (by omega))).mono ?_
      rintro e w1 ⟨rfl, hB1⟩
      have h1 : LSt w w1 l (m + 1) Q := lst_call hLd hB1
      refine hK.out _ _ h1 (fun _ => ?_)
      try simp only [List.getElem_toArray, List.getElem_cons_zero, List.getElem_cons_succ, Act.put, List.setIfInBounds_toArray, List.set_cons_zero, List.set_cons_succ]
      refine wpAnyH_ready (rs := [6]) (by kernel_rfl) (by simp) ?_
      refine AllReadyH.cons rfl (fun K hK => ?_) AllReadyH.nil
      go_simp
      refine hK.out _ _ (lst_alloc h1 _) (fun _ => ?_)
      try simp only [List.getElem_toArray, List.getElem_cons_zero, List.getElem_cons_succ, Act.put, List.setIfInBounds_toArray, List.set_cons_zero, List.set_cons_succ]
      refine wpAnyH_ready (rs := [7]) (by kernel_rfl) (by simp) ?_
      refine AllReadyH.cons rfl (fun K hK => ?_) AllReadyH.nil
      rw [if_pos (by rfl)]
      have th := there_at (W := w1) rfl #[Value.int IntKind.u8 0, Value.int IntKind.u8 0, Value.int IntKind.u8 0, Value.int IntKind.u8 0, Value.int IntKind.u8 0, Value.int IntKind.u8 0, Value.int IntKind.u8 0, Value.int IntKind.u8 0, Value.int IntKind.u8 0, Value.int IntKind.u8 0, Value.int IntKind.u8 0, Value.int IntKind.u8 0, Value.int IntKind.u8 0, Value.int IntKind.u8 0, Value.int IntKind.u8 0, Value.int IntKind.u8 0, Value.int IntKind.u8 0, Value.int IntKind.u8 0, Value.int IntKind.u8 0, Value.int IntKind.u8 0] 23 (n := 20) rfl
      refine wp_store_mid 23 (.tmp 7) (.tmp 32) rfl w1.heap.size 0 (byteCells (key l (Q 0).1)).toArray rfl rfl (by simpa [hlk] using th) (by rw [Yba.size23]; simp [hlk]) (all_oneCell_toArray hok) ?_
      have h2 := lst_set (lst_alloc h1 (Obj.cells #[Value.int IntKind.u8 0, Value.int IntKind.u8 0, Value.int IntKind.u8 0, Value.int IntKind.u8 0, Value.int IntKind.u8 0, Value.int IntKind.u8 0, Value.int IntKind.u8 0, Value.int IntKind.u8 0, Value.int IntKind.u8 0, Value.int IntKind.u8 0, Value.int IntKind.u8 0, Value.int IntKind.u8 0, Value.int IntKind.u8 0, Value.int IntKind.u8 0, Value.int IntKind.u8 0, Value.int IntKind.u8 0, Value.int IntKind.u8 0, Value.int IntKind.u8 0, Value.int IntKind.u8 0, Value.int IntKind.u8 0] 23)) h1.hlt 0 (byteCells (key l (Q 0).1))
      refine hK.out _ _ h2 (fun _ => ?_)
      try simp only [List.getElem_toArray, List.getElem_cons_zero, List.getElem_cons_succ, Act.put, List.setIfInBounds_toArray, List.set_cons_zero, List.set_cons_succ]
      refine wpAnyH_done (by kernel_rfl) ?_ _
      go_wp2_with fail
      go_meet
      go_light
      exact ⟨_, rfl, h2, h1.hlt, World.rangeAt_setCells_same _ _ _ _ (by rw [hlk]; exact th), World.there_setCells th _ _ _⟩
    · go_simp
      have h1 : LSt w (wx.alloc (Obj.cells #[Value.int IntKind.u8 0, Value.int IntKind.u8 0, Value.int IntKind.u8 0, Value.int IntKind.u8 0, Value.int IntKind.u8 0, Value.int IntKind.u8 0, Value.int IntKind.u8 0, Value.int IntKind.u8 0, Value.int IntKind.u8 0, Value.int IntKind.u8 0, Value.int IntKind.u8 0, Value.int IntKind.u8 0, Value.int IntKind.u8 0, Value.int IntKind.u8 0, Value.int IntKind.u8 0, Value.int IntKind.u8 0, Value.int IntKind.u8 0, Value.int IntKind.u8 0, Value.int IntKind.u8 0, Value.int IntKind.u8 0] 23)).drew l (m + 1) Q := lst_drew (lst_alloc hL _)
      have th : ((wx.alloc (Obj.cells #[Value.int IntKind.u8 0, Value.int IntKind.u8 0, Value.int IntKind.u8 0, Value.int IntKind.u8 0, Value.int IntKind.u8 0, Value.int IntKind.u8 0, Value.int IntKind.u8 0, Value.int IntKind.u8 0, Value.int IntKind.u8 0, Value.int IntKind.u8 0, Value.int IntKind.u8 0, Value.int IntKind.u8 0, Value.int IntKind.u8 0, Value.int IntKind.u8 0, Value.int IntKind.u8 0, Value.int IntKind.u8 0, Value.int IntKind.u8 0, Value.int IntKind.u8 0, Value.int IntKind.u8 0, Value.int IntKind.u8 0] 23)).drew).there wx.heap.size 0 20 := there_at (W := wx) rfl #[Value.int IntKind.u8 0, Value.int IntKind.u8 0, Value.int IntKind.u8 0, Value.int IntKind.u8 0, Value.int IntKind.u8 0, Value.int IntKind.u8 0, Value.int IntKind.u8 0, Value.int IntKind.u8 0, Value.int IntKind.u8 0, Value.int IntKind.u8 0, Value.int IntKind.u8 0, Value.int IntKind.u8 0, Value.int IntKind.u8 0, Value.int IntKind.u8 0, Value.int IntKind.u8 0, Value.int IntKind.u8 0, Value.int IntKind.u8 0, Value.int IntKind.u8 0, Value.int IntKind.u8 0, Value.int IntKind.u8 0] 23 (n := 20) rfl
      refine hK.out _ _ h1 (fun _ => ?_)
      try simp only [List.getElem_toArray, List.getElem_cons_zero, List.getElem_cons_succ, Act.put, List.setIfInBounds_toArray, List.set_cons_zero, List.set_cons_succ]
      refine wpAnyH_ready (rs := [5]) (by kernel_rfl) (by simp) ?_
      refine AllReadyH.cons rfl (fun K hK => ?_) AllReadyH.nil
      go_simp
      refine (key_walk (wx.alloc (Obj.cells #[Value.int IntKind.u8 0, Value.int IntKind.u8 0, Value.int IntKind.u8 0, Value.int IntKind.u8 0, Value.int IntKind.u8 0, Value.int IntKind.u8 0, Value.int IntKind.u8 0, Value.int IntKind.u8 0, Value.int IntKind.u8 0, Value.int IntKind.u8 0, Value.int IntKind.u8 0, Value.int IntKind.u8 0, Value.int IntKind.u8 0, Value.int IntKind.u8 0, Value.int IntKind.u8 0, Value.int IntKind.u8 0, Value.int IntKind.u8 0, Value.int IntKind.u8 0, Value.int IntKind.u8 0, Value.int IntKind.u8 0] 23)).drew l (Q 0).1 hl (hQl 0 (by omega))).mono ?_
      rintro e w1 ⟨rfl, hB1⟩
      have h2 : LSt w w1 l (m + 1) Q := lst_call h1 hB1
      have th1 : w1.there wx.heap.size 0 20 := there_below hB1 (by simp) th
      refine hK.out _ _ h2 (fun _ => ?_)
      try simp only [List.getElem_toArray, List.getElem_cons_zero, List.getElem_cons_succ, Act.put, List.setIfInBounds_toArray, List.set_cons_zero, List.set_cons_succ]
      refine wpAnyH_ready (rs := [7]) (by kernel_rfl) (by simp) ?_
      refine AllReadyH.cons rfl (fun K hK => ?_) AllReadyH.nil
      rw [if_pos (by rfl)]
      refine wp_store_mid 23 (.tmp 7) (.tmp 32) rfl wx.heap.size 0 (byteCells (key l (Q 0).1)).toArray rfl rfl (by simpa [hlk] using th1) (by rw [Yba.size23]; simp [hlk]) (all_oneCell_toArray hok) ?_
      have h3 := lst_set h2 hL.hlt 0 (byteCells (key l (Q 0).1))
      refine hK.out _ _ h3 (fun _ => ?_)
      try simp only [List.getElem_toArray, List.getElem_cons_zero, List.getElem_cons_succ, Act.put, List.setIfInBounds_toArray, List.set_cons_zero, List.set_cons_succ]
      refine wpAnyH_done (by kernel_rfl) ?_ _
      go_wp2_with fail
      go_meet
      go_light
      exact ⟨_, rfl, h3, hL.hlt, World.rangeAt_setCells_same _ _ _ _ (by rw [hlk]; exact th1), World.there_setCells th1 _ _ _⟩
  case rest =>
    obtain ⟨g, rfl, hL1, hg, rk, tk⟩ := hcut
    clear hL hLd hi1 hi2 hlk hok
    generalize hcc : (fun i j => lt (key l (Q i).1) (key l (Q j).1)) = cc at *
    have Hcc := hideIt hcc
    clear hcc
    go_wp2_with fail
    go_loopg [6, 8] m (fun r s6 s8 wr => ∃ k : Nat, k ≤ m ∧ r = m - k ∧ s8 = .int .i64 ((k : Int) + 1) ∧ s6 = .int .i64 (bestI cc k : Nat) ∧ KSt w wr l (m + 1) Q g (key l (Q (bestI cc k)).1))
    case atStart => exact ⟨0, Nat.zero_le _, rfl, rfl, rfl, hL1, hg, rk, tk⟩
    case round =>
      clear hL1 rk tk
      obtain ⟨k, hk, rfl, rfl, rfl, hL⟩ := hrel
      by_cases hkm : k < m
      · have hkz : (k : Int) + 1 < (m : Int) + 1 := by omega
        have hkn : (0 : Int) ≤ (k : Int) + 1 := by omega
        have hbl := bestI_le cc k
        have HBS := hideIt (show bestI cc (k + 1) = if cc (k + 1) (bestI cc k) then k + 1 else bestI cc k from rfl)
        generalize bestI cc k = bj at *
        have hi1 : (Yba.prog.info? 23).map (·.size) = some (byteCells (Q (k + 1)).1).length := by rw [Yba.size23, byteCells_length, hQl (k + 1) (by omega)]
        have hk0 := key_len l (Q (k + 1)).1 (by rw [hl, hQl (k + 1) (by omega)])
        have hlk : (byteCells (key l (Q (k + 1)).1)).length = 20 := by rw [byteCells_length, hk0, hl]
        have hok : ∀ v ∈ byteCells (key l (Q (k + 1)).1), v.oneCell' = true := byteCells_one _
        clear hk0
        have hLd := kst_drew hL
        go_upto_region 10 with fail
        go_cut [9] (fun s9 wy => ∃ g2, s9 = .pointer (some ⟨g2, 0, none⟩) ∧ KSt w wy l (m + 1) Q g (key l (Q bj).1) ∧ wy.rangeAt g2 0 (byteCells (key l (Q (k + 1)).1)) ∧ g2 < wy.heap.size)
        case first =>
          refine wp_region_held_drew (S := fun w' => KSt w w' l (m + 1) Q g (key l (Q bj).1)) (by kernel_rfl) hLd (fun hHeld => ?_)
          refine wpAnyH_take (i := 0) rfl (by kernel_rfl) (by kernel_rfl) (by kernel_rfl) (fun _ _ _ h => h) (yieldsIf_load_mid (by rfl) 23 (.tmp 2) rfl w.heap.size 0 rfl (byteCells l) _ (fun w' h => h.st.rid) Yba.underlying23 rfl hi0) hHeld ?_
          try simp only [List.getElem_toArray, List.getElem_cons_zero, List.getElem_cons_succ, Act.put, List.setIfInBounds_toArray, List.set_cons_zero, List.set_cons_succ]
          refine wpAnyH_take (i := 1) (v := .slice (some ⟨w.heap.size + 1, 0, none⟩) (m + 1) (m + 1)) rfl (by kernel_rfl) (by kernel_rfl) (by kernel_rfl) (fun _ _ _ h => h) (Or.inl ⟨by rfl, fun w' _ => by go_simp⟩) hHeld ?_
          try simp only [List.getElem_toArray, List.getElem_cons_zero, List.getElem_cons_succ, Act.put, List.setIfInBounds_toArray, List.set_cons_zero, List.set_cons_succ]
          refine wpAnyH_take (i := 2) (v := .int .i64 ((k : Int) + 1)) rfl (by kernel_rfl) (by kernel_rfl) (by kernel_rfl) (fun _ _ _ h => h) (Or.inl ⟨by rfl, fun w' _ => by go_simp⟩) hHeld ?_
          try simp only [List.getElem_toArray, List.getElem_cons_zero, List.getElem_cons_succ, Act.put, List.setIfInBounds_toArray, List.set_cons_zero, List.set_cons_succ]
          refine wpAnyH_take (i := 3) (v := .pointer (some ⟨w.heap.size + 1, (k + 1) * 21, none⟩)) rfl (by kernel_rfl) (by kernel_rfl) (by kernel_rfl) (fun _ _ _ h => h) (Or.inl ⟨by rfl, fun w' _ => by go_simp⟩) hHeld ?_
          try simp only [List.getElem_toArray, List.getElem_cons_zero, List.getElem_cons_succ, Act.put, List.setIfInBounds_toArray, List.set_cons_zero, List.set_cons_succ]
          refine wpAnyH_take (i := 4) (v := .pointer (some ⟨w.heap.size + 1, (k + 1) * 21, none⟩)) rfl (by kernel_rfl) (by kernel_rfl) (by kernel_rfl) (fun _ _ _ h => h) (Or.inl ⟨by rfl, fun w' _ => by go_simp⟩) hHeld ?_
          try simp only [List.getElem_toArray, List.getElem_cons_zero, List.getElem_cons_succ, Act.put, List.setIfInBounds_toArray, List.set_cons_zero, List.set_cons_succ]
          refine wpAnyH_take (i := 5) rfl (by kernel_rfl) (by kernel_rfl) (by kernel_rfl) (fun _ _ _ h => h) (yieldsIf_load_mid (by rfl) 23 (.tmp 43) rfl (w.heap.size + 1) ((k + 1) * 21) rfl (byteCells (Q (k + 1)).1) _ (fun w' h => rangeAt_pid (h.st.rq (k + 1) (by omega))) Yba.underlying23 rfl hi1) hHeld ?_
          try simp only [List.getElem_toArray, List.getElem_cons_zero, List.getElem_cons_succ, Act.put, List.setIfInBounds_toArray, List.set_cons_zero, List.set_cons_succ]
          refine wpAnyH_ready (rs := [6, 7]) (by kernel_rfl) (by simp) ?_
          refine AllReadyH.cons rfl (fun K hK => ?_) (AllReadyH.cons rfl (fun K hK => ?_) AllReadyH.nil)
          · go_simp
            refine (key_walk wr.drew l (Q (k + 1)).1 hl (hQl (k + 1) (by omega))).mono ?_
            rintro e w1 ⟨rfl, hB1⟩
            have h1 : KSt w w1 l (m + 1) Q g (key l (Q bj).1) := kst_call hLd hB1
            refine hK.out _ _ h1 (fun _ => ?_)
            try simp only [List.getElem_toArray, List.getElem_cons_zero, List.getElem_cons_succ, Act.put, List.setIfInBounds_toArray, List.set_cons_zero, List.set_cons_succ]
            refine wpAnyH_ready (rs := [7]) (by kernel_rfl) (by simp) ?_
            refine AllReadyH.cons rfl (fun K hK => ?_) AllReadyH.nil
            go_simp
            refine hK.out _ _ (kst_alloc h1 _) (fun _ => ?_)
            try simp only [List.getElem_toArray, List.getElem_cons_zero, List.getElem_cons_succ, Act.put, List.setIfInBounds_toArray, List.set_cons_zero, List.set_cons_succ]
            refine wpAnyH_ready (rs := [8]) (by kernel_rfl) (by simp) ?_
            refine AllReadyH.cons rfl (fun K hK => ?_) AllReadyH.nil
            rw [if_pos (by rfl)]
            have th := there_at (W := w1) rfl #[Value.int IntKind.u8 0, Value.int IntKind.u8 0, Value.int IntKind.u8 0, Value.int IntKind.u8 0, Value.int IntKind.u8 0, Value.int IntKind.u8 0, Value.int IntKind.u8 0, Value.int IntKind.u8 0, Value.int IntKind.u8 0, Value.int IntKind.u8 0, Value.int IntKind.u8 0, Value.int IntKind.u8 0, Value.int IntKind.u8 0, Value.int IntKind.u8 0, Value.int IntKind.u8 0, Value.int IntKind.u8 0, Value.int IntKind.u8 0, Value.int IntKind.u8 0, Value.int IntKind.u8 0, Value.int IntKind.u8 0] 23 (n := 20) rfl
            refine wp_store_mid 23 (.tmp 9) (.tmp 45) rfl w1.heap.size 0 (byteCells (key l (Q (k + 1)).1)).toArray rfl rfl (by simpa [hlk] using th) (by rw [Yba.size23]; simp [hlk]) (all_oneCell_toArray hok) ?_
            have h2 := kst_far (kst_alloc h1 (Obj.cells #[Value.int IntKind.u8 0, Value.int IntKind.u8 0, Value.int IntKind.u8 0, Value.int IntKind.u8 0, Value.int IntKind.u8 0, Value.int IntKind.u8 0, Value.int IntKind.u8 0, Value.int IntKind.u8 0, Value.int IntKind.u8 0, Value.int IntKind.u8 0, Value.int IntKind.u8 0, Value.int IntKind.u8 0, Value.int IntKind.u8 0, Value.int IntKind.u8 0, Value.int IntKind.u8 0, Value.int IntKind.u8 0, Value.int IntKind.u8 0, Value.int IntKind.u8 0, Value.int IntKind.u8 0, Value.int IntKind.u8 0] 23)) h1.st.hlt (Nat.ne_of_lt h1.lt) 0 (byteCells (key l (Q (k + 1)).1))
            refine hK.out _ _ h2 (fun _ => ?_)
            try simp only [List.getElem_toArray, List.getElem_cons_zero, List.getElem_cons_succ, Act.put, List.setIfInBounds_toArray, List.set_cons_zero, List.set_cons_succ]
            refine wpAnyH_done (by kernel_rfl) ?_ _
            go_wp2_with fail
            go_meet
            go_light
            exact ⟨_, rfl, h2, World.rangeAt_setCells_same _ _ _ _ (by rw [hlk]; exact th), there_lt (World.there_setCells th _ _ _) (by omega)⟩
          · go_simp
            have h1 : KSt w (wr.alloc (Obj.cells #[Value.int IntKind.u8 0, Value.int IntKind.u8 0, Value.int IntKind.u8 0, Value.int IntKind.u8 0, Value.int IntKind.u8 0, Value.int IntKind.u8 0, Value.int IntKind.u8 0, Value.int IntKind.u8 0, Value.int IntKind.u8 0, Value.int IntKind.u8 0, Value.int IntKind.u8 0, Value.int IntKind.u8 0, Value.int IntKind.u8 0, Value.int IntKind.u8 0, Value.int IntKind.u8 0, Value.int IntKind.u8 0, Value.int IntKind.u8 0, Value.int IntKind.u8 0, Value.int IntKind.u8 0, Value.int IntKind.u8 0] 23)).drew l (m + 1) Q g (key l (Q bj).1) := kst_drew (kst_alloc hL _)
            have th : ((wr.alloc (Obj.cells #[Value.int IntKind.u8 0, Value.int IntKind.u8 0, Value.int IntKind.u8 0, Value.int IntKind.u8 0, Value.int IntKind.u8 0, Value.int IntKind.u8 0, Value.int IntKind.u8 0, Value.int IntKind.u8 0, Value.int IntKind.u8 0, Value.int IntKind.u8 0, Value.int IntKind.u8 0, Value.int IntKind.u8 0, Value.int IntKind.u8 0, Value.int IntKind.u8 0, Value.int IntKind.u8 0, Value.int IntKind.u8 0, Value.int IntKind.u8 0, Value.int IntKind.u8 0, Value.int IntKind.u8 0, Value.int IntKind.u8 0] 23)).drew).there wr.heap.size 0 20 := there_at (W := wr) rfl #[Value.int IntKind.u8 0, Value.int IntKind.u8 0, Value.int IntKind.u8 0, Value.int IntKind.u8 0, Value.int IntKind.u8 0, Value.int IntKind.u8 0, Value.int IntKind.u8 0, Value.int IntKind.u8 0, Value.int IntKind.u8 0, Value.int IntKind.u8 0, Value.int IntKind.u8 0, Value.int IntKind.u8 0, Value.int IntKind.u8 0, Value.int IntKind.u8 0, Value.int IntKind.u8 0, Value.int IntKind.u8 0, Value.int IntKind.u8 0, Value.int IntKind.u8 0, Value.int IntKind.u8 0, Value.int IntKind.u8 0] 23 (n := 20) rfl
            refine hK.out _ _ h1 (fun _ => ?_)
            try simp only [List.getElem_toArray, List.getElem_cons_zero, List.getElem_cons_succ, Act.put, List.setIfInBounds_toArray, List.set_cons_zero, List.set_cons_succ]
            refine wpAnyH_ready (rs := [6]) (by kernel_rfl) (by simp) ?_
            refine AllReadyH.cons rfl (fun K hK => ?_) AllReadyH.nil
            go_simp
            refine (key_walk (wr.alloc (Obj.cells #[Value.int IntKind.u8 0, Value.int IntKind.u8 0, Value.int IntKind.u8 0, Value.int IntKind.u8 0, Value.int IntKind.u8 0, Value.int IntKind.u8 0, Value.int IntKind.u8 0, Value.int IntKind.u8 0, Value.int IntKind.u8 0, Value.int IntKind.u8 0, Value.int IntKind.u8 0, Value.int IntKind.u8 0, Value.int IntKind.u8 0, Value.int IntKind.u8 0, Value.int IntKind.u8 0, Value.int IntKind.u8 0, Value.int IntKind.u8 0, Value.int IntKind.u8 0, Value.int IntKind.u8 0, Value.int IntKind.u8 0] 23)).drew l (Q (k + 1)).1 hl (hQl (k + 1) (by omega))).mono ?_
            rintro e w1 ⟨rfl, hB1⟩
            have h2 : KSt w w1 l (m + 1) Q g (key l (Q bj).1) := kst_call h1 hB1
            have th1 : w1.there wr.heap.size 0 20 := there_below hB1 (by simp) th
            refine hK.out _ _ h2 (fun _ => ?_)
            try simp only [List.getElem_toArray, List.getElem_cons_zero, List.getElem_cons_succ, Act.put, List.setIfInBounds_toArray, List.set_cons_zero, List.set_cons_succ]
            refine wpAnyH_ready (rs := [8]) (by kernel_rfl) (by simp) ?_
            refine AllReadyH.cons rfl (fun K hK => ?_) AllReadyH.nil
            rw [if_pos (by rfl)]
            refine wp_store_mid 23 (.tmp 9) (.tmp 45) rfl wr.heap.size 0 (byteCells (key l (Q (k + 1)).1)).toArray rfl rfl (by simpa [hlk] using th1) (by rw [Yba.size23]; simp [hlk]) (all_oneCell_toArray hok) ?_
            have h3 := kst_far h2 hL.st.hlt (Nat.ne_of_lt hL.lt) 0 (byteCells (key l (Q (k + 1)).1))
            refine hK.out _ _ h3 (fun _ => ?_)
            try simp only [List.getElem_toArray, List.getElem_cons_zero, List.getElem_cons_succ, Act.put, List.setIfInBounds_toArray, List.set_cons_zero, List.set_cons_succ]
            refine wpAnyH_done (by kernel_rfl) ?_ _
            go_wp2_with fail
            go_meet
            go_light
            exact ⟨_, rfl, h3, World.rangeAt_setCells_same _ _ _ _ (by rw [hlk]; exact th1), there_lt (World.there_setCells th1 _ _ _) (by omega)⟩
        case rest =>
          obtain ⟨g2, rfl, hL2, r2, hg2⟩ := hcut
          clear hL hLd hi1
          have hlb : (key l (Q bj).1).length = 20 := by rw [key_len l (Q bj).1 (by rw [hl, hQl bj (by omega)]), hl]
          have hlk' : (key l (Q (k + 1)).1).length = 20 := by rw [byteCells_length] at hlk; exact hlk
          have hw := less_walk wc (key l (Q (k + 1)).1) (key l (Q bj).1) hlk' hlb
          have ecc : lt (key l (Q (k + 1)).1) (key l (Q bj).1) = cc (k + 1) bj := by rw [← Hcc.out]
          rw [ecc] at hw
          clear ecc
          have Hw := hideIt hw
          clear hw
          have rk2 := hL2.rk
          go_wp2_with (first
            | (refine wpList_load_mid rfl 23 (.tmp 9) rfl g2 0 rfl (byteCells (key l (Q (k + 1)).1)) _ (by exact r2) Yba.underlying23 rfl (by rw [Yba.size23, hlk]) ?_)
            | (refine wpList_load_mid rfl 23 (.tmp 7) rfl g 0 rfl (byteCells (key l (Q bj).1)) _ (by exact rk2) Yba.underlying23 rfl (by rw [Yba.size23, byteCells_length, hlb]) ?_))
          refine Hw.out.mono ?_
          rintro e w2 ⟨rfl, hB2⟩
          have hL3 := kst_call hL2 hB2
          have r3 := rangeAt_below hB2 hg2 r2
          clear hL2 r2 rk2 hB2 Hw hg2
          cases hcb : cc (k + 1) bj
          · go_wp2
            go_roundg (m - (k + 1))
            case measure => go_light; omega
            case rel =>
              go_light
              have e := HBS.out
              rw [if_neg (by simp [hcb])] at e
              exact ⟨k + 1, by omega, rfl, by simp, by rw [e], by rw [e]; exact hL3⟩
          · go_wp2_with (first
              | (refine wpList_load_mid rfl 23 (.tmp 9) rfl g2 0 rfl (byteCells (key l (Q (k + 1)).1)) _ (by exact r3) Yba.underlying23 rfl (by rw [Yba.size23, hlk]) ?_)
              | (refine wpList_store_mid rfl 23 (.tmp 7) (.tmp 50) rfl g 0 (byteCells (key l (Q (k + 1)).1)).toArray rfl rfl (by simpa [hlk] using hL3.tk) (by rw [Yba.size23]; simp [hlk]) (all_oneCell_toArray hok) ?_))
            go_roundg (m - (k + 1))
            case measure => go_light; omega
            case rel =>
              go_light
              have e := HBS.out
              rw [if_pos hcb] at e
              exact ⟨k + 1, by omega, rfl, by simp, by rw [e]; simp, by rw [e]; exact kst_set hL3 _ hlk'⟩
      · obtain rfl : k = m := by omega
        have hkz : ¬ (k : Int) + 1 < (k : Int) + 1 := by omega
        have hbl := bestI_le cc k
        have ecc : bestI (fun i j => bet (Q i).1 l (Q j).1) k = bestI cc k := bestI_congr k (fun i j hi hj => by rw [← Hcc.out]; exact bet_eq _ _ _ (by rw [hl, hQl i (by omega)]) (by rw [hl, hQl j (by omega)]))
        have hL4 := hL.st
        clear hL
        generalize bestI cc k = bj at *
        have Lb := pcells_length (Q bj) (hQl bj (by omega))
        have Rb := hL4.rq bj (by omega)
        have hbz : (bj : Int) < (k : Int) + 1 := by omega
        go_upto_region 14 with fail
        go_cut [10] (fun s10 wy => ∃ g3, s10 = .pointer (some ⟨g3, 0, none⟩) ∧ LSt w wy l (k + 1) Q ∧ w.heap.size + 1 < g3 ∧ wy.rangeAt g3 0 (pcells (Q bj)) ∧ g3 < wy.heap.size)
        case first =>
          go_wp2_with (first
            | (refine wpList_load_mid rfl 27 (.tmp 53) rfl (w.heap.size + 1) (bj * 21) rfl (pcells (Q bj)) _ (by exact Rb) Yba.underlying27 rfl (by rw [Yba.size27, Lb]) ?_)
            | (refine wpList_store_mid rfl 27 (.tmp 10) (.tmp 54) rfl wr.heap.size 0 (pcells (Q bj)).toArray rfl rfl (by exact there_at rfl _ 27 (by simp [Lb])) (by rw [Yba.size27]; simp [Lb]) (all_oneCell_toArray (pcells_one _)) ?_))
          go_meet
          go_light
          exact ⟨_, rfl, lst_set (lst_alloc hL4 _) hL4.hlt _ _, hL4.hlt, World.rangeAt_setCells_same _ _ _ _ (there_at rfl _ 27 (by simp [Lb])), there_lt (World.there_setCells (there_at (n := 21) rfl _ 27 rfl) _ _ _) (by omega)⟩
        case rest =>
          obtain ⟨g3, rfl, hL5, hg3, r5, hg3'⟩ := hcut
          clear hL4 Rb
          have hnw := near_any wc l hl b off k c Q hnc hc (fun i hi => rangeAt_below hL5.bel hb (hQ i hi)) hQl
          rw [ecc] at hnw
          have Hnw := hideIt hnw
          clear hnw ecc
          have rid := hL5.rid
          go_wp2_with (first
            | (refine wpList_load_mid rfl 23 (.tmp 2) rfl w.heap.size 0 rfl (byteCells l) _ (by exact rid) Yba.underlying23 rfl (by rw [Yba.size23, byteCells_length, hl]) ?_))
          refine Hnw.out.mono ?_
          rintro e w3 ⟨rfl, hB3⟩
          have hL6 := lst_call hL5 hB3
          have r6 := rangeAt_below hB3 hg3' r5
          have hg6 : g3 < w3.heap.size := by have := hB3.size; omega
          clear hL5 r5 rid hB3 Hnw hg3'
          have he := eq27 (Q bj) (hQl bj (by omega)) (hQs bj (by omega))
          go_wp2_with (first
            | (refine wpList_store_mid rfl 27 (.tmp 11) (.tmp 57) rfl w3.heap.size 0 (pcells (Q bj)).toArray rfl rfl (by exact there_at rfl _ 27 (by simp [Lb])) (by rw [Yba.size27]; simp [Lb]) (all_oneCell_toArray (pcells_one _)) ?_)
            | (refine wpList_load_mid rfl 27 (.tmp 11) rfl w3.heap.size 0 rfl (pcells (Q bj)) _ (by exact World.rangeAt_setCells_same _ _ _ _ (there_at rfl _ 27 (by simp [Lb]))) Yba.underlying27 rfl (by rw [Yba.size27, Lb]) ?_)
            | (refine wpList_load_mid rfl 27 (.tmp 10) rfl g3 0 rfl (pcells (Q bj)) _ (by exact World.rangeAt_setCells_apart (World.rangeAt_alloc r6 _) _ _ _ (.inl (by omega))) Yba.underlying27 rfl (by rw [Yba.size27, Lb]) ?_))
          clear he
          go_loopg [12] (k + 1) (fun r s12 wr => ∃ q : Nat, q ≤ k + 1 ∧ r = k + 1 - q ∧ s12 = .int .i64 q ∧ LSt w wr l (k + 1) Q)
          case atStart => exact ⟨0, Nat.zero_le _, rfl, rfl, lst_set (lst_alloc hL6 _) hL6.hlt _ _⟩
          case round =>
            clear hL6 r6
            obtain ⟨q, hq, rfl, rfl, hL⟩ := hrel
            by_cases hqk : q < k + 1
            · have hqz : (q : Int) < (k : Int) + 1 := by omega
              have hqn : (0 : Int) ≤ (q : Int) := by omega
              have he := eq27 (Q q) (hQl q (by omega)) (hQs q (by omega))
              have Lq := pcells_length (Q q) (hQl q (by omega))
              have hi3 : (Yba.prog.info? 27).map (·.size) = some (pcells (Q q)).length := by rw [Yba.size27, Lq]
              have hqQ := hQ q hqk
              go_upto_region 21 with fail
              refine wp_region_held_drew (S := fun w' => LSt w w' l (k + 1) Q) (by kernel_rfl) (lst_drew hL) (fun hHeld => ?_)
              refine wpAnyH_take (i := 0) (v := .slice (some ⟨b, off, none⟩) (k + 1) c) rfl (by kernel_rfl) (by kernel_rfl) (by kernel_rfl) (fun _ _ _ h => h) (Or.inl ⟨by rfl, fun w' _ => by go_simp⟩) hHeld ?_
              try simp only [List.getElem_toArray, List.getElem_cons_zero, List.getElem_cons_succ, Act.put, List.setIfInBounds_toArray, List.set_cons_zero, List.set_cons_succ]
              refine wpAnyH_take (i := 1) (v := .int .i64 (q : Int)) rfl (by kernel_rfl) (by kernel_rfl) (by kernel_rfl) (fun _ _ _ h => h) (Or.inl ⟨by rfl, fun w' _ => by go_simp⟩) hHeld ?_
              try simp only [List.getElem_toArray, List.getElem_cons_zero, List.getElem_cons_succ, Act.put, List.setIfInBounds_toArray, List.set_cons_zero, List.set_cons_succ]
              refine wpAnyH_take (i := 2) (v := .pointer (some ⟨b, off + q * 21, none⟩)) rfl (by kernel_rfl) (by kernel_rfl) (by kernel_rfl) (fun _ _ _ h => h) (Or.inl ⟨by rfl, fun w' _ => by go_simp⟩) hHeld ?_
              try simp only [List.getElem_toArray, List.getElem_cons_zero, List.getElem_cons_succ, Act.put, List.setIfInBounds_toArray, List.set_cons_zero, List.set_cons_succ]
              refine wpAnyH_take (i := 3) rfl (by kernel_rfl) (by kernel_rfl) (by kernel_rfl) (fun _ _ _ h => h) (yieldsIf_load_mid (by rfl) 27 (.tmp 69) rfl b (off + q * 21) rfl (pcells (Q q)) _ (fun w' h => rangeAt_below h.bel hb hqQ) Yba.underlying27 rfl hi3) hHeld ?_
              try simp only [List.getElem_toArray, List.getElem_cons_zero, List.getElem_cons_succ, Act.put, List.setIfInBounds_toArray, List.set_cons_zero, List.set_cons_succ]
              refine wpAnyH_take (i := 4) (v := .slice (some ⟨w.heap.size + 1, 0, none⟩) (k + 1) (k + 1)) rfl (by kernel_rfl) (by kernel_rfl) (by kernel_rfl) (fun _ _ _ h => h) (Or.inl ⟨by rfl, fun w' _ => by go_simp⟩) hHeld ?_
              try simp only [List.getElem_toArray, List.getElem_cons_zero, List.getElem_cons_succ, Act.put, List.setIfInBounds_toArray, List.set_cons_zero, List.set_cons_succ]
              refine wpAnyH_take (i := 5) (v := .int .i64 (q : Int)) rfl (by kernel_rfl) (by kernel_rfl) (by kernel_rfl) (fun _ _ _ h => h) (Or.inl ⟨by rfl, fun w' _ => by go_simp⟩) hHeld ?_
              try simp only [List.getElem_toArray, List.getElem_cons_zero, List.getElem_cons_succ, Act.put, List.setIfInBounds_toArray, List.set_cons_zero, List.set_cons_succ]
              refine wpAnyH_take (i := 6) (v := .pointer (some ⟨w.heap.size + 1, q * 21, none⟩)) rfl (by kernel_rfl) (by kernel_rfl) (by kernel_rfl) (fun _ _ _ h => h) (Or.inl ⟨by rfl, fun w' _ => by go_simp⟩) hHeld ?_
              try simp only [List.getElem_toArray, List.getElem_cons_zero, List.getElem_cons_succ, Act.put, List.setIfInBounds_toArray, List.set_cons_zero, List.set_cons_succ]
              refine wpAnyH_take (i := 7) rfl (by kernel_rfl) (by kernel_rfl) (by kernel_rfl) (fun _ _ _ h => h) (yieldsIf_load_mid (by rfl) 27 (.tmp 73) rfl (w.heap.size + 1) (q * 21) rfl (pcells (Q q)) _ (fun w' h => h.rq q hqk) Yba.underlying27 rfl hi3) hHeld ?_
              try simp only [List.getElem_toArray, List.getElem_cons_zero, List.getElem_cons_succ, Act.put, List.setIfInBounds_toArray, List.set_cons_zero, List.set_cons_succ]
              refine wpAnyH_take (i := 8) (v := .bool false) rfl (by kernel_rfl) (by kernel_rfl) (by kernel_rfl) (fun _ _ _ h => h) (Or.inl ⟨by rfl, fun w' _ => by go_simp⟩) hHeld ?_
              try simp only [List.getElem_toArray, List.getElem_cons_zero, List.getElem_cons_succ, Act.put, List.setIfInBounds_toArray, List.set_cons_zero, List.set_cons_succ]
              refine wpAnyH_done (by kernel_rfl) ?_ _
              clear he hi3
              go_wp2
              go_roundg (k + 1 - (q + 1))
              case measure => go_light; omega
              case rel => go_light; exact ⟨q + 1, by omega, rfl, by simp, lst_drew hL⟩
            · obtain rfl : q = k + 1 := by omega
              have hqz : ¬ (k : Int) + 1 < (k : Int) + 1 := by omega
              go_wp2
              go_ret
              exact ⟨rfl, hL.bel⟩

end Go.Proofs.Ybulkdqnu
