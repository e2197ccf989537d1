import Derived.Test.YbulkdqpkRows
import Derived.Test.YbulkdqpkModel
import Derived.WalkKit
import Derived.ProofKit
import Derived.OpenShut
import Derived.ShutString
import Derived.ChangeOld
import Derived.SizedLaws
import Derived.Below
namespace Go.Proofs.Ybulkdqpk
open Go.ChangeShapes Go.WideShapes Go.ChangeAt Go.RowKit
open Go.ChangeMaps (open_string shut_string)
set_option linter.unusedVariables false

theorem own : ownKnob Yba.prog.godebug = none := by kernel_rfl

theorem cells_whole (p s : ByteArray) : [] ++ Lib.strCells p ++ Lib.byteCells ([35, 34] ++ (esc false (rl s s.size 0) ++ [34])) = Lib.byteCells (whole p s) := by
  rw [List.nil_append, Lib.strCells_eq, ← Lib.byteCells_append]
  rfl

/-! ### The law's walk -/
set_option maxHeartbeats 4000000 in
theorem walk (a0 : ByteArray) (a1 : ByteArray) (w0 : a0.size ≤ 140737488351232) (w1 : a1.size ≤ 140737488351232) (w : World) :
    Calls Yba.prog 3 #[.string a0, .string a1] w fun e w' => e = .returned (.bool true) ∧ Below w.heap.size w w' := by
  by_cases h0 : a0.size + a1.size ≤ 1048576
  · have g0 : decide ((1048576 : Int) < (a0.size : Int) + (a1.size : Int)) = false := by simp; omega
    go_enter Yba.func3, Yba.ntmps3
    go_wp2_with fail
    have hI0 : Lib.IsBuilderF 25 5 w.heap.size w.heap.size [] (w.alloc (.cells #[.pointer none, .slice none 0 0] 25)) := Lib.IsBuilderF.of (Lib.fresh_isBuilder 25 5 w)
    have hb0 : Below w.heap.size w (w.alloc (.cells #[.pointer none, .slice none 0 0] 25)) := (Below.refl _ _).alloc (Nat.le_refl _) _
    refine (writeString_any w.heap.size w.heap.size [] a0 _ hI0 (by simp; omega) hb0.size).mono ?_
    rintro e wa ⟨rfl, h1, b1, k1⟩
    have hb1 := hb0.trans b1
    clear k1 b1 hb0 hI0
    have hI1 : Lib.IsBuilderF 25 5 w.heap.size w.heap.size ([] ++ Lib.strCells a0) wa := Or.inr h1
    clear h1
    go_wp2_with fail
    refine (regex_any w.heap.size w.heap.size _ a1 wa hI1 (by omega) (by simp [Lib.strCells_eq, Lib.byteCells_length]; omega) hb1.size).mono ?_
    rintro e wb ⟨rfl, hI2, b2⟩
    rw [cells_whole] at hI2
    have hb2 := hb1.trans b2
    clear b2 hb1 hI1
    go_wp2_with fail
    refine (Yba.Builder_String_any_k w.heap.size w.heap.size _ wb hI2 hb2.size).mono ?_
    rintro e wc ⟨rfl, _, b3, _⟩
    have hb3 := hb2.trans b3
    clear b3 hb2 hI2
    go_wp2_with fail
    refine (model_any a0 a1 wc (by omega) (by omega)).mono ?_
    rintro e wd ⟨rfl, b4⟩
    have hb4 := hb3.trans (b4.mono hb3.size)
    clear b4 hb3
    go_wp2_with fail
    go_ret
    exact ⟨by simp, hb4⟩
  · have g0 : decide ((1048576 : Int) < (a0.size : Int) + (a1.size : Int)) = true := by simp; omega
    go_enter Yba.func3, Yba.ntmps3
    go_wp2
    go_ret
    exact ⟨rfl, Below.refl _ _⟩

set_option maxRecDepth 100000 in
theorem lifted (os : Os) (started : os.Started) (H : Type) (enc : TypeId × Value → H) :
    ReturnsInHanded {} Yba.checked os 3 .any (Rows.lawS5873AWholeSpec.pre6 enc Yba.prog Yba.f3 Rows.lawS5873AWholeRow.domain false) (Rows.lawS5873AWholeSpec.post enc Yba.prog Yba.f3 false true false false) := by
  refine returnsInHanded_of_change_sized (C := Yba.checked) own started (by kernel_rfl) Yba.func3
    (ChangeSpec.witness6 (enc := enc) (C := Yba.checked) false ⟨#[], #[.string ByteArray.empty, .string ByteArray.empty], []⟩ 8 (by kernel_rfl) (by kernel_rfl) (by kernel_rfl) (by kernel_rfl)) ?_
  intro W base args ds gs before hval0 hW hcnd hsz0 _
  have hval : ∀ (j : Nat) t v, Yba.f3.params[j]? = some t → args[j]? = some v → Value.okWide Yba.prog W .any base t v := hval0
  have hW' := hW
  obtain ⟨p, q, hA0, hV, rfl, hfz, hnd⟩ := hW
  have hA : DataW.TrodAll enc Yba.prog W 0 (fun _ => true) true Yba.f3.params.toList args.toList ds p := hA0
  have hsz : (DataW.weightsEach Yba.prog (Yba.f3.params.toList ++ Rows.lawS5873AWholeSpec.plain.varTypes Yba.prog) (ds ++ gs)).all (· ≤ reachBytes) = true := hsz0
  rw [Yba.params3] at hA hval hsz
  obtain ⟨v0, vs0, d0, ds0, p0, q0, hargs, rfl, rfl, h0, r0⟩ := trodAll_cons hA
  obtain ⟨v1, vs1, d1, ds1, p1, q1, rfl, rfl, rfl, h1, r1⟩ := trodAll_cons r0
  obtain ⟨rfl, rfl, rfl⟩ := trodAll_nil r1
  obtain rfl : args = #[v0, v1] := by cases args; simp_all
  obtain ⟨rfl, rfl⟩ := trodVars_none hV
  obtain ⟨a0, rfl, rfl, rfl, w0⟩ := open_string Yba.underlying9 (hval 0 9 v0 rfl rfl) h0
  obtain ⟨a1, rfl, rfl, rfl, w1⟩ := open_string Yba.underlying9 (hval 1 9 v1 rfl rfl) h1
  clear hA0 hval0 hsz0
  have s0 := sized_string hsz (j := 0) rfl rfl
  have s1 := sized_string hsz (j := 1) rfl rfl
  have t0 : a0.size ≤ 140737488351232 := by simpa [reachBytes] using s0
  have t1 : a1.size ≤ 140737488351232 := by simpa [reachBytes] using s1
  refine (walk a0 a1 t0 t1 W).mono fun e W' ⟨he, bel⟩ => ?_
  subst he
  exact ⟨_, rfl, _, _, _, [], _, [], hW', trodAll_mk1 (shut_bool Yba.underlying4 _), (trodAll_cons_mk (shut_string Yba.underlying9 w0) (trodAll_cons_mk (shut_string Yba.underlying9 w1) trodAll_mk0)), rfl, bel.frame _, fun h => by cases h⟩

theorem over : Rows.lawS5873AWholeRow.holds Yba.pinned (OpenSpec.ofChange Rows.lawS5873AWholeSpec) :=
  OpenClaim.holds_of_wide 3 Yba.f3 rfl rfl rfl rfl rfl rfl rfl ⟨rfl, rfl, rfl, rfl, rfl⟩ rfl rfl rfl rfl rfl (by kernel_rfl) Yba.func3 (by kernel_rfl)
    (of_decide_eq_true (by kernel_rfl)) (by unfold Func.isWrapper; first | (rw [if_pos (by decide +kernel)]; kernel_rfl) | (rw [if_neg (by decide +kernel)]; exact ⟨rfl, rfl⟩))
    (fun os started H enc _ => lifted os started H enc)

theorem proved : Rows.LawS5873AWholeSaid :=
  over
end Go.Proofs.Ybulkdqpk
