import Derived.Test.YbulkdqoiChecked
import Derived.WalkKit
import Derived.WalkLawsBesides
import Derived.WalkSpells
import Derived.Deep.LoopGhost
import Derived.Deep.DeepCutAuto
import Derived.Deep.Light
import Derived.BigQuiet
import Derived.Laws.LoneSync
namespace Go.Proofs.Ybulkdqoi
open Go.RowKit

theorem hideIt {p : Prop} (h : p) : Hid p := h
theorem ret_int {k : IntKind} {a b : Int} (h : a = b) : Ending.returned (.int k a) = .returned (.int k b) := by rw [h]

/-- The lead less the drift over e. -/
def lessDrift (lead e : Int) : Int := wrap64 (lead - wrap64 (wrap64 (wrap64 (e.tdiv 1000000) * 1024) + wrap64 ((wrap64 (e.tmod 1000000 * 1024)).tdiv 1000000)))

/-- The skew that an estimate gives at raw. -/
def skew (lead from_ est hold raw : Int) : Int :=
  if wrap64 (raw - from_) ≤ hold then est else if lessDrift lead (wrap64 (raw - from_)) < 0 then 0 else lessDrift lead (wrap64 (raw - from_))

theorem skew_in {lead from_ est hold raw : Int} (h : wrap64 (raw - from_) ≤ hold) : skew lead from_ est hold raw = est := by rw [skew, if_pos h]
theorem skew_neg {lead from_ est hold raw : Int} (h : hold < wrap64 (raw - from_)) (h2 : lessDrift lead (wrap64 (raw - from_)) < 0) : skew lead from_ est hold raw = 0 := by
  rw [skew, if_neg (by omega), if_pos h2]
theorem skew_pos {lead from_ est hold raw : Int} (h : hold < wrap64 (raw - from_)) (h2 : 0 ≤ lessDrift lead (wrap64 (raw - from_))) : skew lead from_ est hold raw = lessDrift lead (wrap64 (raw - from_)) := by
  rw [skew, if_neg (by omega), if_neg (by omega)]

set_option maxHeartbeats 400000 in
theorem at_walk (w : World) (b : Nat) (lead from_ est hold raw : Int)
    (c0 : w.cell? ⟨b, 0, none⟩ = some (.int .i64 lead)) (c1 : w.cell? ⟨b, 1, none⟩ = some (.int .i64 from_)) (c2 : w.cell? ⟨b, 2, none⟩ = some (.int .i64 est)) (c3 : w.cell? ⟨b, 3, none⟩ = some (.int .i64 hold)) :
    Calls Yba.prog 8 #[.pointer (some ⟨b, 0, none⟩), .int .i64 raw] w fun e w' => e = .returned (.int .i64 (skew lead from_ est hold raw)) ∧ w' = w := by
  go_enter Yba.func8, Yba.ntmps8
  go_wp2
  all_goals
    go_ret
    refine ⟨ret_int ?_, rfl⟩
    first
      | exact (skew_in (by assumption)).symm
      | exact (skew_neg (by assumption) (by assumption)).symm
      | exact (skew_pos (by assumption) (by assumption)).symm

set_option maxHeartbeats 400000 in
theorem zz_walk (w : World) (lead from_ est hold raw : Int) :
    Calls Yba.prog 4 #[.agg #[.int .i64 lead, .int .i64 from_, .int .i64 est, .int .i64 hold], .int .i64 raw] w fun e w' => e = .returned (.int .i64 (skew lead from_ est hold raw)) ∧ Below w.heap.size w w' := by
  go_enter Yba.func4, Yba.ntmps4
  go_wp2
  all_goals
    go_ret
    refine ⟨ret_int ?_, (Below.refl _ _).alloc (Nat.le_refl _) _⟩
    first
      | exact (skew_in (by assumption)).symm
      | exact (skew_neg (by assumption) (by assumption)).symm
      | exact (skew_pos (by assumption) (by assumption)).symm

/-- A source's reading as a clock takes it. -/
def tk (v : Int) : Int := if v < 0 then 0 else if 8835955200000000000 < v then 8835955200000000000 else v

theorem tk_bd (v : Int) : 0 ≤ tk v ∧ tk v ≤ 8835955200000000000 := by
  unfold tk
  split
  · omega
  · split <;> omega

set_option maxHeartbeats 400000 in
theorem taken_walk (w : World) (v : Int) :
    Calls Yba.prog 6 #[.int .i64 v] w fun e w' => e = .returned (.int .i64 (tk v)) ∧ w' = w := by
  by_cases h0 : v < 0
  · have hf := hideIt (show tk v = 0 by rw [tk, if_pos h0])
    go_enter Yba.func6, Yba.ntmps6
    go_wp2
    go_ret
    exact ⟨ret_int hf.out.symm, rfl⟩
  · have h0' : 0 ≤ v := by omega
    by_cases h1 : 8835955200000000000 < v
    · have hf := hideIt (show tk v = 8835955200000000000 by rw [tk, if_neg h0, if_pos h1])
      clear h0
      go_enter Yba.func6, Yba.ntmps6
      go_wp2
      go_ret
      exact ⟨ret_int hf.out.symm, rfl⟩
    · have hf := hideIt (show tk v = v by rw [tk, if_neg h0, if_neg h1])
      have h1' : v ≤ 8835955200000000000 := by omega
      clear h0 h1
      go_enter Yba.func6, Yba.ntmps6
      go_wp2
      go_ret
      exact ⟨ret_int hf.out.symm, rfl⟩

/-- The physical reading. -/
def phys (r s : Int) : Int := if 8835955200000000000 - r ≤ s then 8835955200000000000 else r + s

set_option maxHeartbeats 400000 in
theorem with_walk (w : World) (r s : Int) (h0 : 0 ≤ r) (h1 : r ≤ 8835955200000000000) (h2 : -9223372036854775808 ≤ s) (h3 : s ≤ 9223372036854775807) :
    Calls Yba.prog 7 #[.int .i64 r, .int .i64 s] w fun e w' => e = .returned (.int .i64 (phys r s)) ∧ w' = w := by
  go_enter Yba.func7, Yba.ntmps7
  go_wp2
  all_goals
    go_ret
    refine ⟨ret_int ?_, rfl⟩
    unfold phys
    first
      | exact (if_pos (by assumption)).symm
      | exact (if_neg (by omega)).symm

end Go.Proofs.Ybulkdqoi
