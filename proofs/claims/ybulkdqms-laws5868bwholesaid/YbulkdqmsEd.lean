import Derived.Test.YbulkdqmsOsa
import Derived.Deep.RegionHeld3
namespace Go.Proofs.Ybulkdqms
open Go.RowKit Osa

theorem Yba.info25 : (Yba.prog.info? 25).map (fun i => (i.zero, i.size, i.bytes)) = some (some (.slice none 0 0), 1, 24) := by kernel_rfl

/-- The block of row r of the table whose row of rows is block N. -/
def bk (N r : Nat) : Nat := N + 1 + r

theorem bk_ne {N r r' : Nat} (h : r ≠ r') : bk N r ≠ bk N r' := by unfold bk; omega
theorem bk_top {N r : Nat} : bk N r ≠ N := by unfold bk; omega

/-- r rows are made: row k holds k in its cell 0 and else zeros. -/
structure Made (w wr : World) (m n r : Nat) : Prop where
  bel : w.Since w.heap.size wr
  size : wr.heap.size = bk w.heap.size r
  top : wr.rowIs w.heap.size 25 (m + 1) (fun k => if k < r then .slice (some ⟨bk w.heap.size k, 0, none⟩) (n + 1) (n + 1) else .slice none 0 0)
  done : ∀ k, k < r → wr.rowIs (bk w.heap.size k) 3 (n + 1) (fun c => .int .i64 (if c = 0 then (k : Int) else 0))

/-- The table, whole: cell (r, c) holds T r c. -/
structure Tab (w wr : World) (m n : Nat) (T : Nat → Nat → Int) : Prop where
  bel : w.Since w.heap.size wr
  top : wr.rowIs w.heap.size 25 (m + 1) (fun k => .slice (some ⟨bk w.heap.size k, 0, none⟩) (n + 1) (n + 1))
  rows : ∀ k, k ≤ m → wr.rowIs (bk w.heap.size k) 3 (n + 1) (fun c => .int .i64 (T k c))

theorem made_start (w : World) (m n : Nat) : Made w (w.alloc (.cells (madeCells #[.slice none 0 0] (m + 1)) 25)) m n 0 :=
  ⟨(World.Since.refl _ _).alloc (Nat.le_refl _) _, by simp [bk], (World.rowIs_made w _ _ 25).congr (fun k _ => by simp), fun k hk => absurd hk (Nat.not_lt_zero _)⟩

theorem made_mid {w wr : World} {m n r : Nat} (h : Made w wr m n r) (v : Value) :
    ((wr.alloc (.cells (madeCells #[.int .i64 0] (n + 1)) 3)).setCell ⟨w.heap.size, r, none⟩ v).rowIs (bk w.heap.size r) 3 (n + 1) (fun _ => .int .i64 0) := by
  have hnew := World.rowIs_made wr (.int .i64 0) (n + 1) 3
  rw [h.size] at hnew
  exact hnew.setOther bk_top _

theorem made_step {w wr : World} {m n r : Nat} (h : Made w wr m n r) :
    Made w (((wr.alloc (.cells (madeCells #[.int .i64 0] (n + 1)) 3)).setCell ⟨w.heap.size, r, none⟩ (.slice (some ⟨bk w.heap.size r, 0, none⟩) (n + 1) (n + 1))).setCell ⟨bk w.heap.size r, 0, none⟩ (.int .i64 (r : Int))) m n (r + 1) := by
  refine ⟨((h.bel.alloc (by rw [h.size]; unfold bk; omega) _).setCell (Nat.le_refl _) _).setCell (by show w.heap.size ≤ bk w.heap.size r; unfold bk; omega) _, by simp [h.size, bk]; omega,
    (((h.top.alloc _).set r _).setOther (fun e => bk_top e.symm) _).congr (fun k _ => ?_), fun k hk => ?_⟩
  · by_cases e : k = r
    · subst e; simp
    · rw [if_neg e]
      by_cases hlt : k < r
      · rw [if_pos hlt, if_pos (by omega)]
      · rw [if_neg hlt, if_neg (by omega)]
  · by_cases e : k = r
    · subst e
      refine ((made_mid h _).set 0 _).congr (fun c _ => ?_)
      by_cases e2 : c = 0
      · rw [if_pos e2, if_pos e2]
      · rw [if_neg e2, if_neg e2]
    · exact (((h.done k (by omega)).alloc _).setOther bk_top _).setOther (bk_ne e) _

theorem made_done {w wr : World} {m n : Nat} (h : Made w wr m n (m + 1)) : Tab w wr m n (fun r c => if c = 0 then (r : Int) else 0) :=
  ⟨h.bel, h.top.congr (fun k hk => by rw [if_pos hk]), fun k hk => h.done k (by omega)⟩

theorem tab_congr {w wr : World} {m n : Nat} {T T' : Nat → Nat → Int} (h : Tab w wr m n T) (e : ∀ r c, r ≤ m → c ≤ n → T r c = T' r c) : Tab w wr m n T' :=
  ⟨h.bel, h.top, fun k hk => (h.rows k hk).congr (fun c hc => by rw [e k c hk (by omega)])⟩

theorem tab_set {w wr : World} {m n : Nat} {T : Nat → Nat → Int} (h : Tab w wr m n T) (r c : Nat) (v : Int) :
    Tab w (wr.setCell ⟨bk w.heap.size r, c, none⟩ (.int .i64 v)) m n (fun r' c' => if r' = r ∧ c' = c then v else T r' c') := by
  refine ⟨h.bel.setCell (by show w.heap.size ≤ bk w.heap.size r; unfold bk; omega) _, h.top.setOther (fun e => bk_top e.symm) _, fun k hk => ?_⟩
  by_cases e : k = r
  · subst e
    refine ((h.rows k hk).set c _).congr (fun t _ => ?_)
    by_cases e2 : t = c
    · subst e2; simp
    · rw [if_neg e2, if_neg (fun q => e2 q.2)]
  · exact ((h.rows k hk).setOther (bk_ne e) _).congr (fun t _ => by rw [if_neg (fun q => e q.1)])

theorem tab_drew {w wr : World} {m n : Nat} {T : Nat → Nat → Int} (h : Tab w wr m n T) (k : Nat) : Tab w (wr.drewN k) m n T := by
  induction k with
  | zero => exact h
  | succ k ih => exact ⟨ih.bel.drew, ih.top, ih.rows⟩

theorem tab_next {w wr : World} {m n i j : Nat} {v : Int} {A B : Nat → Nat}
    (h : Tab w wr m n (fun r' c' => if r' = i + 1 ∧ c' = j + 1 then v else if r' ≤ i ∨ (r' = i + 1 ∧ c' ≤ j) then D A B r' c' else if c' = 0 then (r' : Int) else 0)) (hv : v = D A B (i + 1) (j + 1)) :
    Tab w wr m n (fun r c => if r ≤ i ∨ (r = i + 1 ∧ c ≤ j + 1) then D A B r c else if c = 0 then (r : Int) else 0) := by
  refine tab_congr h (fun r c _ _ => ?_)
  by_cases e : r = i + 1 ∧ c = j + 1
  · rw [if_pos e, if_pos (by omega), e.1, e.2, hv]
  · rw [if_neg e]
    by_cases e2 : r ≤ i ∨ (r = i + 1 ∧ c ≤ j)
    · rw [if_pos e2, if_pos (by omega)]
    · rw [if_neg e2, if_neg (show ¬ (r ≤ i ∨ (r = i + 1 ∧ c ≤ j + 1)) by omega)]

theorem tab_next2 {w wr : World} {m n i j : Nat} {v v' : Int} {A B : Nat → Nat}
    (h : Tab w wr m n (fun r' c' => if r' = i + 1 ∧ c' = j + 1 then v' else if r' = i + 1 ∧ c' = j + 1 then v else if r' ≤ i ∨ (r' = i + 1 ∧ c' ≤ j) then D A B r' c' else if c' = 0 then (r' : Int) else 0)) (hv : v' = D A B (i + 1) (j + 1)) :
    Tab w wr m n (fun r c => if r ≤ i ∨ (r = i + 1 ∧ c ≤ j + 1) then D A B r c else if c = 0 then (r : Int) else 0) := by
  refine tab_next (v := v') (tab_congr h (fun r c _ _ => ?_)) hv
  by_cases e : r = i + 1 ∧ c = j + 1
  · rw [if_pos e, if_pos e]
  · rw [if_neg e, if_neg e, if_neg e]

theorem min2_eq (x y : Int) : (if y < x then y else x) = min x y := by
  split <;> omega

theorem min3_eq (x y z : Int) : (if z < (if y < x then y else x) then z else (if y < x then y else x)) = min (min x y) z := by
  split <;> split <;> omega

set_option maxHeartbeats 4000000 in
set_option maxRecDepth 1000000 in
theorem ed_walk (a b : ByteArray) (ha : a.size ≤ 2048) (hb : b.size ≤ 2048) (w : World) :
    Calls Yba.prog 4 #[.string a, .string b] w fun e w' => e = .returned (.int .i64 (D (byteAt a) (byteAt b) a.size b.size)) ∧ w.Since w.heap.size w' := by
  have hmk := run_make_row' (P := Yba.prog) 25 3 (.int .i64 0) 8 Yba.underlying25 Yba.info3 rfl .i64 .i64 (b.size + 1) (by omega) (by omega)
  have ec : ((b.size + 1 : Nat) : Int) = (b.size : Int) + 1 := by omega
  rw [ec] at hmk
  have hmk24 := run_make_row' (P := Yba.prog) 24 25 (.slice none 0 0) 24 Yba.underlying24 Yba.info25 rfl .i64 .i64 (a.size + 1) (by omega) (by omega)
  have ea : ((a.size + 1 : Nat) : Int) = (a.size : Int) + 1 := by omega
  rw [ea] at hmk24
  clear ec ea
  go_enter Yba.func4, Yba.ntmps4
  go_wp2
  clear hmk24
  go_loopg [17] (a.size + 1) (fun g s17 wr => ∃ r : Nat, r ≤ a.size + 1 ∧ g = a.size + 1 - r ∧ s17 = .int .i64 r ∧ Made w wr a.size b.size r)
  case atStart => exact ⟨0, Nat.zero_le _, rfl, rfl, made_start w a.size b.size⟩
  case round =>
    obtain ⟨r, hr, rfl, rfl, hM⟩ := hrel
    by_cases hlt : r < a.size + 1
    · have hrz : (r : Int) < (a.size : Int) + 1 := by omega
      have hsize := hM.size
      have c1 : ∀ o, (wr.alloc o).cell? ⟨w.heap.size, r, none⟩ = some (.slice none 0 0) := fun o => by simpa using (hM.top.alloc o).cell hlt
      have c2 : ∀ o, (wr.alloc o).frozen? ⟨w.heap.size, r, none⟩ = false := fun o => (hM.top.alloc o).frozen r
      have c3 : ∀ v, ((wr.alloc (.cells (madeCells #[.int .i64 0] (b.size + 1)) 3)).setCell ⟨w.heap.size, r, none⟩ v).cell? ⟨bk w.heap.size r, 0, none⟩ = some (.int .i64 0) := fun v => (made_mid hM v).cell (Nat.succ_pos _)
      have c4 : ∀ v, ((wr.alloc (.cells (madeCells #[.int .i64 0] (b.size + 1)) 3)).setCell ⟨w.heap.size, r, none⟩ v).frozen? ⟨bk w.heap.size r, 0, none⟩ = false := fun v => (made_mid hM v).frozen 0
      go_wp2
      go_roundg (a.size + 1 - (r + 1))
      case measure => go_light; omega
      case rel => go_light; exact ⟨r + 1, by omega, rfl, by simp, made_step hM⟩
    · obtain rfl : r = a.size + 1 := by omega
      have hT := made_done hM
      clear hM hr hlt hmk
      have c1 := hT.top.cell (Nat.succ_pos _)
      have hrz : ¬ ((a.size : Int) + 1 < (a.size : Int) + 1) := by omega
      go_wp2
      clear c1 hrz
      go_loopg [38] (b.size + 1) (fun g s38 wr => ∃ j : Nat, j ≤ b.size + 1 ∧ g = b.size + 1 - j ∧ s38 = .int .i64 j ∧ Tab w wr a.size b.size (fun r c => if c = 0 then (r : Int) else if r = 0 ∧ c < j then (c : Int) else 0))
      case atStart => exact ⟨0, Nat.zero_le _, rfl, rfl, tab_congr hT (fun r c _ _ => by simp)⟩
      case round =>
        clear hT
        obtain ⟨j, hj, rfl, rfl, hT⟩ := hrel
        by_cases hlt : j < b.size + 1
        · have hjz : (j : Int) < (b.size : Int) + 1 := by omega
          have c1 := hT.top.cell (Nat.succ_pos _)
          have c2 := (hT.rows 0 (Nat.zero_le _)).cell hlt
          have c3 := (hT.rows 0 (Nat.zero_le _)).frozen j
          go_wp2
          go_roundg (b.size + 1 - (j + 1))
          case measure => go_light; omega
          case rel =>
            go_light
            refine ⟨j + 1, by omega, rfl, by simp, tab_congr (tab_set hT 0 j _) (fun r c _ _ => ?_)⟩
            by_cases e : c = 0
            · subst e
              by_cases e2 : r = 0 ∧ 0 = j
              · rw [if_pos e2, if_pos rfl]; omega
              · rw [if_neg e2, if_pos rfl, if_pos rfl]
            · by_cases e2 : r = 0 ∧ c = j
              · rw [if_pos e2, if_neg e, if_pos (by omega)]; omega
              · rw [if_neg e2, if_neg e, if_neg e]
                by_cases e3 : r = 0 ∧ c < j
                · rw [if_pos e3, if_pos (by omega)]
                · rw [if_neg e3, if_neg (by omega)]
        · obtain rfl : j = b.size + 1 := by omega
          have hjz : ¬ ((b.size : Int) + 1 < (b.size : Int) + 1) := by omega
          have hT0 : Tab w wr a.size b.size (fun r c => if r ≤ 0 then D (byteAt a) (byteAt b) r c else if c = 0 then (r : Int) else 0) := tab_congr hT (fun r c _ hc => by
            by_cases e : r ≤ 0
            · rw [if_pos e]
              obtain rfl : r = 0 := by omega
              rw [D_zero]
              by_cases e2 : c = 0
              · rw [if_pos e2, e2]
              · rw [if_neg e2, if_pos (by omega)]
            · rw [if_neg e]
              by_cases e2 : c = 0
              · rw [if_pos e2, if_pos e2]
              · rw [if_neg e2, if_neg e2, if_neg (by omega)])
          clear hT
          go_wp2
          clear hjz
          go_loopg [8] a.size (fun g s8 wo => ∃ i : Nat, i ≤ a.size ∧ g = a.size - i ∧ s8 = .int .i64 ((i : Int) + 1) ∧ Tab w wo a.size b.size (fun r c => if r ≤ i then D (byteAt a) (byteAt b) r c else if c = 0 then (r : Int) else 0))
          case atStart => exact ⟨0, Nat.zero_le _, rfl, rfl, hT0⟩
          case round =>
            clear hT0
            obtain ⟨i, hi, rfl, rfl, hT⟩ := hrel
            by_cases hia : i < a.size
            · have hiz : (i : Int) + 1 ≤ (a.size : Int) := by omega
              have hT0 : Tab w wr a.size b.size (fun r c => if r ≤ i ∨ (r = i + 1 ∧ c ≤ 0) then D (byteAt a) (byteAt b) r c else if c = 0 then (r : Int) else 0) := tab_congr hT (fun r c _ _ => by
                by_cases e : r ≤ i
                · rw [if_pos e, if_pos (Or.inl e)]
                · rw [if_neg e]
                  by_cases e2 : r = i + 1 ∧ c ≤ 0
                  · rw [if_pos (Or.inr e2)]
                    obtain ⟨rfl, e3⟩ := e2
                    obtain rfl : c = 0 := by omega
                    rw [if_pos rfl, D_succ_zero]
                  · rw [if_neg (show ¬ (r ≤ i ∨ (r = i + 1 ∧ c ≤ 0)) by omega)])
              clear hT
              go_wp2
              go_loopg [9] b.size (fun g s9 wi => ∃ j : Nat, j ≤ b.size ∧ g = b.size - j ∧ s9 = .int .i64 ((j : Int) + 1) ∧ Tab w wi a.size b.size (fun r c => if r ≤ i ∨ (r = i + 1 ∧ c ≤ j) then D (byteAt a) (byteAt b) r c else if c = 0 then (r : Int) else 0))
              case atStart => exact ⟨0, Nat.zero_le _, rfl, rfl, hT0⟩
              case round =>
                clear hT0
                obtain ⟨j, hj, rfl, rfl, hT⟩ := hrel
                by_cases hjb : j < b.size
                · have hjz : (j : Int) + 1 ≤ (b.size : Int) := by omega
                  have b1 := D_bd (byteAt a) (byteAt b) i j
                  have b2 := D_bd (byteAt a) (byteAt b) i (j + 1)
                  have b3 := D_bd (byteAt a) (byteAt b) (i + 1) j
                  go_wp2
                  go_quiet (fail)
                  go_upto_if 68 with fail
                  have hT' := tab_drew hT nq
                  clear hT
                  go_cut [10] (fun s10 wx => ∃ v : Int, s10 = .int .i64 v ∧ v = (if byteAt a i = byteAt b j then 0 else 1) ∧ Tab w wx a.size b.size (fun r c => if r ≤ i ∨ (r = i + 1 ∧ c ≤ j) then D (byteAt a) (byteAt b) r c else if c = 0 then (r : Int) else 0))
                  case first =>
                    go_wp2_with fail
                    all_goals
                      go_meet
                      go_light
                      refine ⟨_, rfl, ?_, hT'⟩
                      first
                        | exact (if_pos (sw_yes hia hjb (by assumption))).symm
                        | exact (if_neg (sw_no1 hia hjb (by assumption))).symm
                  case rest =>
                    clear hT'
                    obtain ⟨cost, rfl, hcost, hT⟩ := hcut
                    have cb : 0 ≤ cost ∧ cost ≤ 1 := by rw [hcost]; split <;> omega
                    have Hcost := hideIt hcost
                    clear hcost
                    have t0 := hT.top.cell (i := i) (by omega)
                    have t1 := hT.top.cell (i := i + 1) (by omega)
                    have c1 := (hT.rows i (by omega)).cell (i := j) (by omega)
                    rw [if_pos (by omega)] at c1
                    have c2 := (hT.rows i (by omega)).cell (i := j + 1) (by omega)
                    rw [if_pos (by omega)] at c2
                    have c3 := (hT.rows (i + 1) (by omega)).cell (i := j) (by omega)
                    rw [if_pos (by omega)] at c3
                    have c4 := (hT.rows (i + 1) (by omega)).cell (i := j + 1) (by omega)
                    rw [if_neg (by omega), if_neg (by omega)] at c4
                    have f4 := (hT.rows (i + 1) (by omega)).frozen (j + 1)
                    obtain ⟨m3, hm3⟩ : ∃ m3 : Int, m3 = min (min (D (byteAt a) (byteAt b) i (j + 1) + 1) (D (byteAt a) (byteAt b) (i + 1) j + 1)) (D (byteAt a) (byteAt b) i j + cost) := ⟨_, rfl⟩
                    have m3b : 0 ≤ m3 ∧ m3 ≤ 5000 := by omega
                    have hmin : ∀ ts t w, (Builtin.min_ ts t #[.int .i64 (D (byteAt a) (byteAt b) i (j + 1) + 1), .int .i64 (D (byteAt a) (byteAt b) (i + 1) j + 1), .int .i64 (D (byteAt a) (byteAt b) i j + cost)]).run Yba.prog w = .ok (.int .i64 m3) w := fun ts t w => by
                      rw [run_min_int3, min3_eq, hm3]
                    have Hm3 := hideIt hm3
                    clear hm3
                    have z1 : (i : Int) < (a.size : Int) + 1 := by omega
                    have z2 : (i : Int) + 1 < (a.size : Int) + 1 := by omega
                    have z3 : (j : Int) < (b.size : Int) + 1 := by omega
                    have z4 : (j : Int) + 1 < (b.size : Int) + 1 := by omega
                    have y1 : (0 : Int) ≤ (i : Int) := by omega
                    have y2 : (0 : Int) ≤ (i : Int) + 1 := by omega
                    have y3 : (0 : Int) ≤ (j : Int) := by omega
                    have y4 : (0 : Int) ≤ (j : Int) + 1 := by omega
                    have x1 : IntKind.i64.wrap (D (byteAt a) (byteAt b) i (j + 1) + 1) = D (byteAt a) (byteAt b) i (j + 1) + 1 := by rw [IntKind.wrap_i64]; omega
                    have x2 : IntKind.i64.wrap (D (byteAt a) (byteAt b) (i + 1) j + 1) = D (byteAt a) (byteAt b) (i + 1) j + 1 := by rw [IntKind.wrap_i64]; omega
                    have x3 : IntKind.i64.wrap (D (byteAt a) (byteAt b) i j + cost) = D (byteAt a) (byteAt b) i j + cost := by rw [IntKind.wrap_i64]; omega
                    have x4 : IntKind.i64.wrap (i : Int) = (i : Int) := by rw [IntKind.wrap_i64]; omega
                    have x5 : IntKind.i64.wrap (j : Int) = (j : Int) := by rw [IntKind.wrap_i64]; omega
                    have k5 : ∀ v, (wc.setCell ⟨bk w.heap.size (i + 1), j + 1, none⟩ v).cell? ⟨bk w.heap.size (i + 1), j, none⟩ = some (.int .i64 (D (byteAt a) (byteAt b) (i + 1) j)) := fun v => by
                      rw [World.cell?_setCell_other _ _ _ _ (fun e => by have := congrArg Addr.off e; simp at this)]; exact c3
                    have n1 : ¬ bk w.heap.size (i + 1) = w.heap.size := bk_top
                    have n2 : ¬ w.heap.size = bk w.heap.size (i + 1) := fun e => bk_top e.symm
                    have n3 : ¬ bk w.heap.size (i + 1) = bk w.heap.size i := bk_ne (by omega)
                    have n4 : ¬ bk w.heap.size i = bk w.heap.size (i + 1) := bk_ne (by omega)
                    go_upto_region 22 with fail
                    go_cut [] (fun wx => Tab w wx a.size b.size (fun r' c' => if r' = i + 1 ∧ c' = j + 1 then m3 else if r' ≤ i ∨ (r' = i + 1 ∧ c' ≤ j) then D (byteAt a) (byteAt b) r' c' else if c' = 0 then (r' : Int) else 0))
                    case first =>
                      go_region_held3 (fun w' => w'.cell? ⟨w.heap.size, i, none⟩ = some (.slice (some ⟨bk w.heap.size i, 0, none⟩) (b.size + 1) (b.size + 1)) ∧ w'.cell? ⟨w.heap.size, i + 1, none⟩ = some (.slice (some ⟨bk w.heap.size (i + 1), 0, none⟩) (b.size + 1) (b.size + 1)) ∧ w'.cell? ⟨bk w.heap.size i, j, none⟩ = some (.int .i64 (D (byteAt a) (byteAt b) i j)) ∧ w'.cell? ⟨bk w.heap.size i, j + 1, none⟩ = some (.int .i64 (D (byteAt a) (byteAt b) i (j + 1))) ∧ w'.cell? ⟨bk w.heap.size (i + 1), j, none⟩ = some (.int .i64 (D (byteAt a) (byteAt b) (i + 1) j))) (go_keep) (fail)
                      go_wp2_with fail
                      go_meet
                      go_light
                      exact tab_drew (tab_set hT (i + 1) (j + 1) m3) 1
                    case rest =>
                      clear hT t0 t1 c1 c2 c3 c4 f4 hmin x1 x2 x3 x4 x5 k5 n1 n2 n3 n4
                      have hT := hcut
                      clear hcut
                      by_cases hi0 : 0 < i
                      · have hi1 : (1 : Int) < (i : Int) + 1 := by omega
                        by_cases hj0 : 0 < j
                        · have hj1 : (1 : Int) < (j : Int) + 1 := by omega
                          obtain ⟨p, Hp⟩ : ∃ p, Hid (j = p + 1) := ⟨j - 1, (by omega : j = j - 1 + 1)⟩
                          obtain ⟨q, Hq⟩ : ∃ q, Hid (i = q + 1) := ⟨i - 1, (by omega : i = i - 1 + 1)⟩
                          have ep : (j : Int) + 1 - 2 = (p : Int) := by have := Hp.out; omega
                          have eq' : (i : Int) + 1 - 2 = (q : Int) := by have := Hq.out; omega
                          have hpb : p < b.size := by have := Hp.out; omega
                          have hqa : q < a.size := by have := Hq.out; omega
                          cases h1 : ((a[i].toNat : Int) == (b[p].toNat : Int))
                          · go_wp2_with fail
                            go_quiet (fail)
                            go_wp2
                            go_roundg (b.size - (j + 1))
                            case measure => go_light; omega
                            case rel =>
                              go_light
                              refine ⟨j + 1, by omega, rfl, by simp, tab_next (tab_drew hT nq) ?_⟩
                              rw [D_step_no _ _ _ _ (sw_not1 Hp.out (sw_no1 hia hpb h1)), Hm3.out, Hcost.out]
                          · cases h2 : ((a[q].toNat : Int) == (b[j].toNat : Int))
                            · go_wp2_with fail
                              go_quiet (fail)
                              go_wp2
                              go_roundg (b.size - (j + 1))
                              case measure => go_light; omega
                              case rel =>
                                go_light
                                refine ⟨j + 1, by omega, rfl, by simp, tab_next (tab_drew hT nq) ?_⟩
                                rw [D_step_no _ _ _ _ (sw_not2 Hq.out (sw_no1 hqa hjb h2)), Hm3.out, Hcost.out]
                            · have b4 := D_bd (byteAt a) (byteAt b) q p
                              obtain ⟨m2, hm2⟩ : ∃ m2 : Int, m2 = min m3 (D (byteAt a) (byteAt b) q p + 1) := ⟨_, rfl⟩
                              have hmin : ∀ ts t w, (Builtin.min_ ts t #[.int .i64 m3, .int .i64 (D (byteAt a) (byteAt b) q p + 1)]).run Yba.prog w = .ok (.int .i64 m2) w := fun ts t w => by
                                rw [run_min_int2, min2_eq, hm2]
                              have hfin : m2 = D (byteAt a) (byteAt b) (i + 1) (j + 1) := by
                                have e1 := Hp.out
                                have e2 := Hq.out
                                have e3 := Hm3.out
                                have e4 := Hcost.out
                                subst e1 e2
                                rw [D_step_yes _ _ q p ⟨by omega, by omega, sw_yes hia hpb h1, sw_yes hqa hjb h2⟩, hm2, e3, e4]
                              have Hfin := hideIt hfin
                              clear hfin hm2
                              go_wp2_with fail
                              go_quiet (fail)
                              have hT' := tab_drew hT nq
                              clear hT
                              generalize wc.drewN nq = wd at *
                              have t1 := hT'.top.cell (i := i + 1) (by omega)
                              have t0 := hT'.top.cell (i := q) (by omega)
                              have c1 := (hT'.rows q (by omega)).cell (i := p) (by omega)
                              rw [if_neg (by have := Hq.out; omega), if_pos (by have := Hq.out; omega)] at c1
                              have c4 := (hT'.rows (i + 1) (by omega)).cell (i := j + 1) (by omega)
                              rw [if_pos ⟨rfl, rfl⟩] at c4
                              have f4 := (hT'.rows (i + 1) (by omega)).frozen (j + 1)
                              have y5 : (0 : Int) ≤ (q : Int) := by omega
                              have y6 : (0 : Int) ≤ (p : Int) := by omega
                              have z5 : (q : Int) < (a.size : Int) + 1 := by omega
                              have z6 : (p : Int) < (b.size : Int) + 1 := by omega
                              have x1 : IntKind.i64.wrap (q : Int) = (q : Int) := by rw [IntKind.wrap_i64]; omega
                              have x2 : IntKind.i64.wrap (p : Int) = (p : Int) := by rw [IntKind.wrap_i64]; omega
                              have x3 : IntKind.i64.wrap (D (byteAt a) (byteAt b) q p + 1) = D (byteAt a) (byteAt b) q p + 1 := by rw [IntKind.wrap_i64]; omega
                              go_wp2_with fail
                              go_big_region
                              go_wp2
                              go_roundg (b.size - (j + 1))
                              case measure => go_light; omega
                              case rel =>
                                go_light
                                refine ⟨j + 1, by omega, rfl, by simp, tab_next2 (tab_drew (tab_set hT' (i + 1) (j + 1) m2) 1) Hfin.out⟩
                        · have hj1 : decide ((1 : Int) < (j : Int) + 1) = false := by simp; omega
                          go_wp2_with fail
                          go_quiet (fail)
                          go_wp2
                          go_roundg (b.size - (j + 1))
                          case measure => go_light; omega
                          case rel =>
                            go_light
                            refine ⟨j + 1, by omega, rfl, by simp, tab_next (tab_drew hT nq) ?_⟩
                            rw [D_step_no _ _ _ _ (fun h => hj0 h.2.1), Hm3.out, Hcost.out]
                      · have hi1 : decide ((1 : Int) < (i : Int) + 1) = false := by simp; omega
                        go_wp2_with fail
                        go_quiet (fail)
                        go_wp2
                        go_roundg (b.size - (j + 1))
                        case measure => go_light; omega
                        case rel =>
                          go_light
                          refine ⟨j + 1, by omega, rfl, by simp, tab_next (tab_drew hT nq) ?_⟩
                          rw [D_step_no _ _ _ _ (fun h => hi0 h.1), Hm3.out, Hcost.out]
                · obtain rfl : j = b.size := by omega
                  have hjz : ¬ ((b.size : Int) + 1 ≤ (b.size : Int)) := by omega
                  go_wp2
                  go_roundg (a.size - (i + 1))
                  case measure => go_light; omega
                  case rel =>
                    go_light
                    refine ⟨i + 1, by omega, rfl, by simp, tab_congr hT (fun r c _ hc => ?_)⟩
                    by_cases e : r ≤ i + 1
                    · rw [if_pos e, if_pos (by omega)]
                    · rw [if_neg e, if_neg (by omega)]
            · obtain rfl : i = a.size := by omega
              have hiz : ¬ (a.size : Int) + 1 ≤ (a.size : Int) := by omega
              have c1 := hT.top.cell (Nat.lt_succ_self _)
              have c2 := (hT.rows a.size (Nat.le_refl _)).cell (Nat.lt_succ_self _)
              rw [if_pos (Nat.le_refl _)] at c2
              go_wp2
              go_ret
              exact ⟨rfl, hT.bel⟩
end Go.Proofs.Ybulkdqms
