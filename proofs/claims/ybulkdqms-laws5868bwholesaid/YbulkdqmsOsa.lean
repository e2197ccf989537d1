import Derived.Test.YbulkdqmsChecked
import Derived.Test.YbulkdqmsPlain
import Derived.WalkKit
import Derived.WalkLawsBesides
import Derived.WalkSpells
import Derived.Deep.LoopGhost
import Derived.Deep.OwnRows
import Derived.Deep.DeepCutAuto
import Derived.Deep.Light
import Derived.BigQuiet
import Derived.BigRegion
namespace Go.Proofs.Ybulkdqms
open Go.RowKit Osa

theorem Yba.info3 : (Yba.prog.info? 3).map (fun i => (i.zero, i.size, i.bytes)) = some (some (.int .i64 0), 1, 8) := by kernel_rfl

/-- Byte k of a string as a number. -/
def byteAt (s : ByteArray) (k : Nat) : Nat := if h : k < s.size then s[k].toNat else 0
theorem byteAt_eq {s : ByteArray} {k : Nat} (h : k < s.size) : s[k].toNat = byteAt s k := by simp [byteAt, h]

/-- The three rolling rows behind i rounds of the outer loop: x holds row i-1 (if there is one), y row i, z something. -/
structure Roll (w wr : World) (A B : Nat → Nat) (n i x y z : Nat) (F G : Nat → Int) : Prop where
  bel : w.Since w.heap.size wr
  hx : w.heap.size ≤ x
  hy : w.heap.size ≤ y
  hz : w.heap.size ≤ z
  xy : x ≠ y
  xz : x ≠ z
  yz : y ≠ z
  px : wr.rowIs x 3 (n + 1) (fun j => .int .i64 (F j))
  py : wr.rowIs y 3 (n + 1) (fun j => .int .i64 (D A B i j))
  pz : wr.rowIs z 3 (n + 1) (fun j => .int .i64 (G j))
  prev : ∀ i', i = i' + 1 → ∀ j, F j = D A B i' j


/-- The first row being filled: j cells hold their own number. -/
structure Fill (w wr : World) (n j : Nat) : Prop where
  bel : w.Since w.heap.size wr
  px : wr.rowIs w.heap.size 3 (n + 1) (fun _ => .int .i64 0)
  py : wr.rowIs (w.heap.size + 1) 3 (n + 1) (fun t => .int .i64 (if t < j then (t : Int) else 0))
  pz : wr.rowIs (w.heap.size + 1 + 1) 3 (n + 1) (fun _ => .int .i64 0)

theorem fill_start (w : World) (n : Nat) : Fill w (((w.alloc (.cells (madeCells #[.int .i64 0] (n + 1)) 3)).alloc (.cells (madeCells #[.int .i64 0] (n + 1)) 3)).alloc (.cells (madeCells #[.int .i64 0] (n + 1)) 3)) n 0 := by
  refine ⟨(((World.Since.refl _ _).alloc (Nat.le_refl _) _).alloc (by simp) _).alloc (by simp; omega) _, ((World.rowIs_made w _ _ _).alloc _).alloc _, ?_, ?_⟩
  · have h := World.rowIs_made (w.alloc (.cells (madeCells #[.int .i64 0] (n + 1)) 3)) (.int .i64 0) (n + 1) 3
    simp only [World.size_alloc] at h
    exact (h.alloc _).congr (fun t _ => by simp)
  · have h := World.rowIs_made ((w.alloc (.cells (madeCells #[.int .i64 0] (n + 1)) 3)).alloc (.cells (madeCells #[.int .i64 0] (n + 1)) 3)) (.int .i64 0) (n + 1) 3
    simp only [World.size_alloc] at h
    exact h

theorem fill_step {w wr : World} {n j : Nat} (h : Fill w wr n j) : Fill w (wr.setCell ⟨w.heap.size + 1, j, none⟩ (.int .i64 (j : Int))) n (j + 1) := by
  refine ⟨h.bel.setCell (by show w.heap.size ≤ w.heap.size + 1; omega) _, h.px.setOther (by show w.heap.size ≠ w.heap.size + 1; omega) _, ((h.py.set j _).congr (fun t _ => ?_)), h.pz.setOther (by show w.heap.size + 1 + 1 ≠ w.heap.size + 1; omega) _⟩
  by_cases e : t = j
  · subst e; simp
  · rw [if_neg e]
    by_cases hlt : t < j
    · rw [if_pos hlt, if_pos (by omega)]
    · rw [if_neg hlt, if_neg (by omega)]

theorem fill_done {w wr : World} {n : Nat} (A B : Nat → Nat) (h : Fill w wr n (n + 1)) : Roll w wr A B n 0 w.heap.size (w.heap.size + 1) (w.heap.size + 1 + 1) (fun _ => 0) (fun _ => 0) :=
  ⟨h.bel, Nat.le_refl _, by omega, by omega, by omega, by omega, by omega, h.px, h.py.congr (fun t ht => by rw [if_pos ht, D_zero]), h.pz, fun i' e => by omega⟩

/-- Row i+1 being filled: cells 0 .. j stand. -/
structure Inn (w wr : World) (A B : Nat → Nat) (n i j x y z : Nat) (F G : Nat → Int) : Prop where
  bel : w.Since w.heap.size wr
  hx : w.heap.size ≤ x
  hy : w.heap.size ≤ y
  hz : w.heap.size ≤ z
  xy : x ≠ y
  xz : x ≠ z
  yz : y ≠ z
  px : wr.rowIs x 3 (n + 1) (fun j => .int .i64 (F j))
  py : wr.rowIs y 3 (n + 1) (fun j => .int .i64 (D A B i j))
  pz : wr.rowIs z 3 (n + 1) (fun t => .int .i64 (if t ≤ j then D A B (i + 1) t else G t))
  prev : ∀ i', i = i' + 1 → ∀ j, F j = D A B i' j

theorem inn_start {w wr : World} {A B : Nat → Nat} {n i x y z : Nat} {F G : Nat → Int} (h : Roll w wr A B n i x y z F G) :
    Inn w (wr.setCell ⟨z, 0, none⟩ (.int .i64 ((i : Int) + 1))) A B n i 0 x y z F G := by
  refine ⟨h.bel.setCell h.hz _, h.hx, h.hy, h.hz, h.xy, h.xz, h.yz, h.px.setOther h.xz _, h.py.setOther h.yz _, (h.pz.set 0 _).congr (fun t _ => ?_), h.prev⟩
  by_cases e : t = 0
  · subst e
    rw [if_pos rfl, if_pos (Nat.le_refl _), D_succ_zero]
    simp
  · rw [if_neg e, if_neg (by omega)]

theorem inn_step {w wr : World} {A B : Nat → Nat} {n i j x y z : Nat} {F G : Nat → Int} (h : Inn w wr A B n i j x y z F G) {v : Int} (hv : v = D A B (i + 1) (j + 1)) :
    Inn w (wr.setCell ⟨z, j + 1, none⟩ (.int .i64 v)) A B n i (j + 1) x y z F G := by
  refine ⟨h.bel.setCell h.hz _, h.hx, h.hy, h.hz, h.xy, h.xz, h.yz, h.px.setOther h.xz _, h.py.setOther h.yz _, (h.pz.set (j + 1) _).congr (fun t _ => ?_), h.prev⟩
  by_cases e : t = j + 1
  · subst e
    rw [if_pos rfl, if_pos (Nat.le_refl _), hv]
  · rw [if_neg e]
    by_cases hlt : t ≤ j
    · rw [if_pos hlt, if_pos (by omega)]
    · rw [if_neg hlt, if_neg (by omega)]

theorem inn_drew1 {w wr : World} {A B : Nat → Nat} {n i j x y z : Nat} {F G : Nat → Int} (h : Inn w wr A B n i j x y z F G) : Inn w wr.drew A B n i j x y z F G :=
  ⟨h.bel.drew, h.hx, h.hy, h.hz, h.xy, h.xz, h.yz, h.px, h.py, h.pz, h.prev⟩

theorem inn_drew {w wr : World} {A B : Nat → Nat} {n i j x y z : Nat} {F G : Nat → Int} (h : Inn w wr A B n i j x y z F G) (k : Nat) : Inn w (wr.drewN k) A B n i j x y z F G := by
  induction k with
  | zero => exact h
  | succ k ih => exact inn_drew1 ih

theorem inn_done {w wr : World} {A B : Nat → Nat} {n i x y z : Nat} {F G : Nat → Int} (h : Inn w wr A B n i n x y z F G) :
    Roll w wr A B n (i + 1) y z x (D A B i) F := by
  refine ⟨h.bel, h.hy, h.hz, h.hx, h.yz, fun e => h.xy e.symm, fun e => h.xz e.symm, h.py, h.pz.congr (fun t ht => by rw [if_pos (by omega)]), h.px, ?_⟩
  intro i' e j
  obtain rfl : i = i' := by omega
  rfl

theorem sw_no1 {a b : ByteArray} {i j : Nat} (hi : i < a.size) (hj : j < b.size) (h : ((a[i].toNat : Int) == (b[j].toNat : Int)) = false) : ¬ byteAt a i = byteAt b j := by
  rw [← byteAt_eq hi, ← byteAt_eq hj]
  intro e
  simp [e] at h

theorem sw_yes {a b : ByteArray} {i j : Nat} (hi : i < a.size) (hj : j < b.size) (h : ((a[i].toNat : Int) == (b[j].toNat : Int)) = true) : byteAt a i = byteAt b j := by
  rw [← byteAt_eq hi, ← byteAt_eq hj]
  rw [beq_iff_eq] at h
  omega

theorem sw_not1 {A B : Nat → Nat} {i j p : Nat} (e : j = p + 1) (h : ¬ A i = B p) : ¬ sw A B i j := by
  subst e
  exact fun k => h k.2.2.1

theorem sw_not2 {A B : Nat → Nat} {i j q : Nat} (e : i = q + 1) (h : ¬ A q = B j) : ¬ sw A B i j := by
  subst e
  exact fun k => h k.2.2.2

theorem hideIt {p : Prop} (h : p) : Hid p := h

theorem cost_ne {a b : ByteArray} {i j : Nat} (hi : i < a.size) (hj : j < b.size) (h : ((a[i].toNat : Int) != (b[j].toNat : Int)) = true) (d : Int) : d + 1 = d + (if byteAt a i = byteAt b j then 0 else 1) := by
  rw [if_neg]
  rw [← byteAt_eq hi, ← byteAt_eq hj]
  intro e
  simp [e] at h

theorem cost_eq {a b : ByteArray} {i j : Nat} (hi : i < a.size) (hj : j < b.size) (h : ((a[i].toNat : Int) != (b[j].toNat : Int)) = false) (d : Int) : d = d + (if byteAt a i = byteAt b j then 0 else 1) := by
  rw [if_pos]
  · omega
  · rw [← byteAt_eq hi, ← byteAt_eq hj]
    rw [bne_eq_false_iff_eq] at h
    omega

set_option maxHeartbeats 4000000 in
set_option maxRecDepth 1000000 in
theorem osa_walk (a b : ByteArray) (ha : a.size ≤ 2048) (hb : b.size ≤ 2048) (w : World) :
    Calls Yba.prog 5 #[.string a, .string b] w fun e w' => e = .returned (.int .i64 (D (byteAt a) (byteAt b) a.size b.size)) ∧ w.Since w.heap.size w' := by
  have hmk := run_make_row' (P := Yba.prog) 25 3 (.int .i64 0) 8 Yba.underlying25 Yba.info3 rfl .i64 .i64 (b.size + 1) (by omega) (by omega)
  have ec : ((b.size + 1 : Nat) : Int) = (b.size : Int) + 1 := by omega
  rw [ec] at hmk
  clear ec
  go_enter Yba.func5, Yba.ntmps5
  go_wp2
  clear hmk
  go_loopg [9] (b.size + 1) (fun g s9 wr => ∃ j : Nat, j ≤ b.size + 1 ∧ g = b.size + 1 - j ∧ s9 = .int .i64 j ∧ Fill w wr b.size j)
  case atStart => exact ⟨0, Nat.zero_le _, rfl, rfl, fill_start w b.size⟩
  case round =>
    obtain ⟨j, hj, rfl, rfl, hF⟩ := hrel
    by_cases hlt : j < b.size + 1
    · have hjz : (j : Int) ≤ (b.size : Int) := by omega
      have hjz' : (j : Int) < (b.size : Int) + 1 := by omega
      have c1 := hF.py.cell hlt
      have c2 := hF.py.frozen j
      go_wp2
      go_roundg (b.size + 1 - (j + 1))
      case measure => go_light; omega
      case rel => go_light; exact ⟨j + 1, by omega, rfl, by simp, fill_step hF⟩
    · obtain rfl : j = b.size + 1 := by omega
      have hR := fill_done (byteAt a) (byteAt b) hF
      clear hF hj hlt
      have hjz : ¬ ((b.size : Int) + 1 ≤ (b.size : Int)) := by omega
      go_wp2
      clear hjz
      go_loopg [6, 7, 8, 10] a.size (fun g s6 s7 s8 s10 wo => ∃ (i x y z : Nat) (F G : Nat → Int), i ≤ a.size ∧ g = a.size - i ∧ s6 = .slice (some ⟨x, 0, none⟩) (b.size + 1) (b.size + 1) ∧ s7 = .slice (some ⟨y, 0, none⟩) (b.size + 1) (b.size + 1) ∧ s8 = .slice (some ⟨z, 0, none⟩) (b.size + 1) (b.size + 1) ∧ s10 = .int .i64 ((i : Int) + 1) ∧ Roll w wo (byteAt a) (byteAt b) b.size i x y z F G)
      case atStart => exact ⟨0, _, _, _, _, _, Nat.zero_le _, rfl, rfl, rfl, rfl, rfl, hR⟩
      case round =>
        clear hR
        obtain ⟨i, x, y, z, F, G, hi, rfl, rfl, rfl, rfl, rfl, hR⟩ := hrel
        by_cases hia : i < a.size
        · have hiz : (i : Int) + 1 ≤ (a.size : Int) := by omega
          have c1 := hR.pz.cell (Nat.succ_pos _)
          have c2 := hR.pz.frozen 0
          go_wp2
          have hI0 := inn_start hR
          clear hR c1 c2
          go_loopg [11] b.size (fun g s11 wi => ∃ j : Nat, j ≤ b.size ∧ g = b.size - j ∧ s11 = .int .i64 ((j : Int) + 1) ∧ Inn w wi (byteAt a) (byteAt b) b.size i j x y z F G)
          case atStart => exact ⟨0, Nat.zero_le _, rfl, rfl, hI0⟩
          case round =>
            clear hI0
            obtain ⟨j, hj, rfl, rfl, hI⟩ := hrel
            by_cases hjb : j < b.size
            · have hjz : (j : Int) + 1 ≤ (b.size : Int) := by omega
              have b1 := D_bd (byteAt a) (byteAt b) i j
              have b2 := D_bd (byteAt a) (byteAt b) i (j + 1)
              have b3 := D_bd (byteAt a) (byteAt b) (i + 1) j
              have c1 := hI.py.cell (i := j) (by omega)
              go_wp2
              go_quiet (fail)
              go_upto_if 60 with fail
              have hI' := inn_drew hI nq
              clear hI c1
              go_cut [12] (fun s12 wx => ∃ v : Int, s12 = .int .i64 v ∧ v = D (byteAt a) (byteAt b) i j + (if byteAt a i = byteAt b j then 0 else 1) ∧ Inn w wx (byteAt a) (byteAt b) b.size i j x y z F G)
              case first =>
                go_wp2_with fail
                all_goals
                  go_meet
                  go_light
                  refine ⟨_, rfl, ?_, hI'⟩
                  first
                    | exact cost_ne hia hjb (by assumption) _
                    | exact cost_eq hia hjb (by assumption) _
              case rest =>
                clear hI'
                obtain ⟨v0, rfl, hv0, hI⟩ := hcut
                have v0b : 0 ≤ v0 ∧ v0 ≤ 5000 := by rw [hv0]; split <;> omega
                have Hv0 := hideIt hv0
                clear hv0
                have c2 := hI.py.cell (i := j + 1) (by omega)
                have hjz2 : (j : Int) + 1 < (b.size : Int) + 1 := by omega
                go_upto_if 69 with fail
                go_cut [12] (fun s12 wx => ∃ v : Int, s12 = .int .i64 v ∧ v = min v0 (D (byteAt a) (byteAt b) i (j + 1) + 1) ∧ Inn w wx (byteAt a) (byteAt b) b.size i j x y z F G)
                case first =>
                  go_wp2_with fail
                  all_goals
                    go_meet
                    go_light
                    refine ⟨_, rfl, ?_, hI⟩
                    omega
                case rest =>
                  clear hI c2
                  obtain ⟨v1, rfl, hv1, hI⟩ := hcut
                  have v1b : 0 ≤ v1 ∧ v1 ≤ 5000 := by omega
                  have Hv1 := hideIt hv1
                  clear hv1
                  have c3 := hI.pz.cell (i := j) (by omega)
                  rw [if_pos (Nat.le_refl _)] at c3
                  go_upto_if 82 with fail
                  go_cut [12] (fun s12 wx => ∃ v : Int, s12 = .int .i64 v ∧ v = min v1 (D (byteAt a) (byteAt b) (i + 1) j + 1) ∧ Inn w wx (byteAt a) (byteAt b) b.size i j x y z F G)
                  case first =>
                    go_wp2_with fail
                    all_goals
                      go_meet
                      go_light
                      refine ⟨_, rfl, ?_, hI⟩
                      omega
                  case rest =>
                    clear hI c3
                    obtain ⟨v2, rfl, hv2, hI⟩ := hcut
                    have v2b : 0 ≤ v2 ∧ v2 ≤ 5000 := by omega
                    have Hv2 := hideIt hv2
                    clear hv2
                    have c4 := hI.pz.cell (i := j + 1) (by omega)
                    rw [if_neg (by omega)] at c4
                    have c5 := hI.pz.frozen (j + 1)
                    go_wp2_with fail
                    by_cases hi0 : 0 < i
                    · have hi1 : (1 : Int) < (i : Int) + 1 := by omega
                      by_cases hj0 : 0 < j
                      · have hj1 : (1 : Int) < (j : Int) + 1 := by omega
                        obtain ⟨p, Hp⟩ : ∃ p, Hid (j = p + 1) := ⟨j - 1, (by omega : j = j - 1 + 1)⟩
                        obtain ⟨q, Hq⟩ : ∃ q, Hid (i = q + 1) := ⟨i - 1, (by omega : i = i - 1 + 1)⟩
                        have ep : (j : Int) + 1 - 2 = (p : Int) := by have := Hp.out; omega
                        have eq' : (i : Int) + 1 - 2 = (q : Int) := by have := Hq.out; omega
                        have hpb : p < b.size := by have := Hp.out; omega
                        have hqa : q < a.size := by have := Hq.out; omega
                        have c6 := hI.px.cell (i := p) (by omega)
                        have b4 := D_bd (byteAt a) (byteAt b) q p
                        rw [hI.prev q Hq.out p] at c6
                        have hpz : (p : Int) < (b.size : Int) + 1 := by omega
                        cases h1 : ((a[i].toNat : Int) == (b[p].toNat : Int))
                        · go_quiet (fail)
                          go_wp2
                          go_roundg (b.size - (j + 1))
                          case measure => go_light; omega
                          case rel =>
                            go_light
                            refine ⟨j + 1, by omega, rfl, by simp, inn_step (inn_drew hI nq) ?_⟩
                            rw [D_step_no _ _ _ _ (sw_not1 Hp.out (sw_no1 hia hpb h1)), Hv2.out, Hv1.out, Hv0.out]
                            omega
                        · cases h2 : ((a[q].toNat : Int) == (b[j].toNat : Int))
                          · go_quiet (fail)
                            go_wp2
                            go_roundg (b.size - (j + 1))
                            case measure => go_light; omega
                            case rel =>
                              go_light
                              refine ⟨j + 1, by omega, rfl, by simp, inn_step (inn_drew hI nq) ?_⟩
                              rw [D_step_no _ _ _ _ (sw_not2 Hq.out (sw_no1 hqa hjb h2)), Hv2.out, Hv1.out, Hv0.out]
                              omega
                          · have hfin : D (byteAt a) (byteAt b) (i + 1) (j + 1) = min v2 (D (byteAt a) (byteAt b) q p + 1) := by
                              have e1 := Hp.out
                              have e2 := Hq.out
                              subst e1 e2
                              rw [D_step_yes _ _ q p ⟨by omega, by omega, sw_yes hia hpb h1, sw_yes hqa hjb h2⟩, Hv2.out, Hv1.out, Hv0.out]
                              omega
                            have Hfin := hideIt hfin
                            clear hfin
                            go_quiet (fail)
                            go_wp2
                            all_goals
                              go_roundg (b.size - (j + 1))
                              case measure => go_light; omega
                              case rel =>
                                go_light
                                refine ⟨j + 1, by omega, rfl, by simp, inn_step (inn_drew hI nq) ?_⟩
                                rw [Hfin.out]
                                omega
                      · have hj1 : decide ((1 : Int) < (j : Int) + 1) = false := by simp; omega
                        go_quiet (fail)
                        go_wp2
                        go_roundg (b.size - (j + 1))
                        case measure => go_light; omega
                        case rel =>
                          go_light
                          refine ⟨j + 1, by omega, rfl, by simp, inn_step (inn_drew hI nq) ?_⟩
                          rw [D_step_no _ _ _ _ (fun h => hj0 h.2.1), Hv2.out, Hv1.out, Hv0.out]
                          omega
                    · have hi1 : decide ((1 : Int) < (i : Int) + 1) = false := by simp; omega
                      go_quiet (fail)
                      go_wp2
                      go_roundg (b.size - (j + 1))
                      case measure => go_light; omega
                      case rel =>
                        go_light
                        refine ⟨j + 1, by omega, rfl, by simp, inn_step (inn_drew hI nq) ?_⟩
                        rw [D_step_no _ _ _ _ (fun h => hi0 h.1), Hv2.out, Hv1.out, Hv0.out]
                        omega
            · obtain rfl : j = b.size := by omega
              have hjz : ¬ ((b.size : Int) + 1 ≤ (b.size : Int)) := by omega
              go_wp2
              go_roundg (a.size - (i + 1))
              case measure => go_light; omega
              case rel => go_light; exact ⟨i + 1, _, _, _, _, _, by omega, rfl, rfl, rfl, rfl, by simp, inn_done hI⟩
        · obtain rfl : i = a.size := by omega
          have hiz : ¬ (a.size : Int) + 1 ≤ (a.size : Int) := by omega
          have c1 := hR.py.cell (Nat.lt_succ_self _)
          go_wp2
          go_ret
          exact ⟨rfl, hR.bel⟩
end Go.Proofs.Ybulkdqms
