import Derived.Test.YbulkdqnuRows
import Derived.Test.YbulkdqnuWalk
import Derived.Test.YbulkdqnuOpen
import Derived.WalkKit
import Derived.ProofKit
import Derived.OpenShut
import Derived.ShutString
import Derived.ChangeOld
import Derived.Below
namespace Go.Proofs.Ybulkdqnu
open Go.ChangeShapes Go.WideShapes Go.ChangeAt Go.RowKit
open Go.Lib (byteCells byteCells_length)
set_option linter.unusedVariables false

theorem own : ownKnob Yba.prog.godebug = none := by kernel_rfl
theorem laidOut : laidOutB Yba.prog = true := by kernel_rfl

/-- No peer: true at once. -/
theorem law_none (w : World) (l : List UInt8) (a : Option Addr) (c : Nat) :
    Calls Yba.prog 3 #[.agg (byteCells l).toArray, .slice a 0 c] w fun e w' => e = .returned (.bool true) ∧ Below w.heap.size w w' := by
  go_enter Yba.func3, Yba.ntmps3
  go_wp2
  go_ret
  exact ⟨rfl, (Below.refl _ _).alloc (Nat.le_refl _) _⟩

/-- More than 1 << 20 peers: true at once. -/
theorem law_many (w : World) (l : List UInt8) (a : Option Addr) (n c : Nat) (h : 1048576 < n) (hc : n ≤ 9223372036854775807) :
    Calls Yba.prog 3 #[.agg (byteCells l).toArray, .slice a n c] w fun e w' => e = .returned (.bool true) ∧ Below w.heap.size w w' := by
  have g0 : ((n : Int) == 0) = false := by simp; omega
  have g1 : decide ((1048576 : Int) < (n : Int)) = true := by simp; omega
  go_enter Yba.func3, Yba.ntmps3
  go_wp2
  go_ret
  exact ⟨rfl, (Below.refl _ _).alloc (Nat.le_refl _) _⟩

theorem walk (w : World) (l : List UInt8) (hl : l.length = 20) (a : Option Addr) (n c : Nat) (Q : Nat → List UInt8 × ByteArray) (hnc : n ≤ c) (hc : c ≤ maxLen)
    (ha : 0 < n → ∃ b off, a = some ⟨b, off, none⟩ ∧ ∀ i, i < n → w.rangeAt b (off + i * 21) (pcells (Q i)))
    (hQl : ∀ i, i < n → (Q i).1.length = 20) (hQs : ∀ i, i < n → (Q i).2.size ≤ maxLen) :
    Calls Yba.prog 3 #[.agg (byteCells l).toArray, .slice a n c] w fun e w' => e = .returned (.bool true) ∧ Below w.heap.size w w' := by
  have hc' : c ≤ 9223372036854775807 := hc
  cases n with
  | zero => exact law_none w l a c
  | succ m =>
    by_cases hm : m + 1 ≤ 1048576
    · obtain ⟨b, off, rfl, hQ⟩ := ha (by omega)
      exact law_walk w l hl b off m c Q hm hnc hc' hQ hQl hQs
    · exact law_many w l a (m + 1) c (by omega) (by omega)

set_option maxRecDepth 100000 in
theorem lifted (os : Os) (started : os.Started) (H : Type) (enc : TypeId × Value → H) :
    ReturnsInHanded {} Yba.checked os 3 .any (Rows.lawS5870AWholeSpec.pre6 enc Yba.prog Yba.f3 Rows.lawS5870AWholeRow.domain false) (Rows.lawS5870AWholeSpec.post enc Yba.prog Yba.f3 false true false false) := by
  refine returnsInHanded_of_change (C := Yba.checked) own started (by kernel_rfl) Yba.func3
    (ChangeSpec.witness6 (enc := enc) (C := Yba.checked) false ⟨#[], #[.agg #[.int .u8 0, .int .u8 0, .int .u8 0, .int .u8 0, .int .u8 0, .int .u8 0, .int .u8 0, .int .u8 0, .int .u8 0, .int .u8 0, .int .u8 0, .int .u8 0, .int .u8 0, .int .u8 0, .int .u8 0, .int .u8 0, .int .u8 0, .int .u8 0, .int .u8 0, .int .u8 0], .slice none 0 0], []⟩ 8 (by kernel_rfl) (by kernel_rfl) (by kernel_rfl) (by kernel_rfl)) ?_
  intro W base args ds gs before hval0 hW hcnd _
  have hval : ∀ (j : Nat) t v, Yba.f3.params[j]? = some t → args[j]? = some v → Value.okWide Yba.prog W .any base t v := hval0
  have hW' := hW
  obtain ⟨p, q, hA0, hV, rfl, hfz, hnd⟩ := hW
  have hA : DataW.TrodAll enc Yba.prog W 0 (fun _ => true) true Yba.f3.params.toList args.toList ds p := hA0
  rw [Yba.params3] at hA hval
  obtain ⟨v0, vs0, d0, ds0, p0, q0, hargs, rfl, rfl, h0, r0⟩ := trodAll_cons hA
  obtain ⟨v1, vs1, d1, ds1, p1, q1, rfl, rfl, rfl, h1, r1⟩ := trodAll_cons r0
  obtain ⟨rfl, rfl, rfl⟩ := trodAll_nil r1
  obtain rfl : args = #[v0, v1] := by cases args; simp_all
  obtain ⟨rfl, rfl⟩ := trodVars_none hV
  have k0 := h0
  have lt0 : ∀ x ∈ p0, x.block < W.heap.size := by obtain ⟨m, hm⟩ := k0; exact DataW.trod_lt m _ _ _ hm
  have k1 := h1
  have lt1 : ∀ x ∈ p1, x.block < W.heap.size := by obtain ⟨m, hm⟩ := k1; exact DataW.trod_lt m _ _ _ hm
  obtain ⟨l, hl, rfl⟩ : ∃ l : List UInt8, l.length = 20 ∧ v0 = .agg (byteCells l).toArray := by
    have ho := hval 0 23 v0 rfl rfl
    unfold Value.okWide at ho
    rw [Yba.underlying23] at ho
    obtain ⟨cs, rfl, _, _⟩ := ho
    obtain ⟨fuel, hf⟩ := h0
    obtain ⟨l, hl, e⟩ := id_of_trod hf
    refine ⟨l, hl, ?_⟩
    rw [← e]
    simp [Value.cells]
  obtain ⟨a1, len1, cap1, rfl⟩ := okWide_slice Yba.underlying24 (hval 1 24 v1 rfl rfl)
  obtain ⟨Q, hnc, hcm, hadr, hQl, hQs⟩ : ∃ Q : Nat → List UInt8 × ByteArray, len1 ≤ cap1 ∧ cap1 ≤ maxLen ∧ (0 < len1 → ∃ b off, a1 = some ⟨b, off, none⟩ ∧ ∀ i, i < len1 → W.rangeAt b (off + i * 21) (pcells (Q i))) ∧ (∀ i, i < len1 → (Q i).1.length = 20) ∧ (∀ i, i < len1 → (Q i).2.size ≤ maxLen) := by
    obtain ⟨fuel, hf⟩ := h1
    rcases Deep.open_slice Yba.underlying24 hf with ⟨hcs, _⟩ | ⟨a, l', c', m, n, D, Pl, hcs, _, hlc, hcm, hm, _, hel⟩
    · simp [Value.cells] at hcs
      obtain ⟨rfl, rfl, rfl⟩ := hcs
      exact ⟨fun _ => ([], ByteArray.empty), Nat.le_refl _, Nat.zero_le _, fun h => absurd h (Nat.lt_irrefl _), fun i h => absurd h (Nat.not_lt_zero _), fun i h => absurd h (Nat.not_lt_zero _)⟩
    · simp [Value.cells] at hcs
      obtain ⟨rfl, rfl, rfl⟩ := hcs
      simp at hm
      subst hm
      rw [Yba.cells27] at hel
      have hq : ∀ i, i < len1 → ∃ q : List UInt8 × ByteArray, q.1.length = 20 ∧ q.2.size ≤ maxLen ∧ ∀ j v, (pcells q)[j]? = some v → W.cell? ((a.add (i * 21)).add j) = some v := fun i hi => by
        obtain ⟨cs', hc1, hc2⟩ := hel i (by omega)
        obtain ⟨q, e1, e2, rfl⟩ := peer_of_trod hc2
        exact ⟨q, e1, e2, range_of_cells hc1⟩
      obtain ⟨Q, hQ⟩ := Deep.choose_lt hq
      refine ⟨Q, hlc, hcm, fun hpos => ?_, fun i hi => (hQ i hi).1, fun i hi => (hQ i hi).2.1⟩
      obtain ⟨b, off, spot⟩ := a
      have hL := pcells_length (Q 0) (hQ 0 hpos).1
      have hc0 := (hQ 0 hpos).2.2 0 _ (List.getElem?_eq_getElem (by omega))
      have hspot : spot = none := by simpa [Addr.add] using World.cell?_spot hc0
      subst hspot
      refine ⟨b, off, rfl, fun i hi j v hv => ?_⟩
      have := (hQ i hi).2.2 j v hv
      rw [Addr.add_mid, Addr.add_mid] at this
      exact this
  clear hA0 hval0
  refine (walk W l hl a1 len1 cap1 Q hnc hcm hadr hQl hQs).mono fun e W' ⟨he, bel⟩ => ?_
  subst he
  exact ⟨_, rfl, _, _, _, [], _, [], hW', trodAll_mk1 (shut_bool Yba.underlying4 _), (trodAll_cons_mk (Below.trod laidOut (by kernel_rfl) (of_decide_eq_true (by kernel_rfl)) k0 bel lt0) (trodAll_cons_mk (Below.trod laidOut (by kernel_rfl) (of_decide_eq_true (by kernel_rfl)) k1 bel lt1) trodAll_mk0)), rfl, bel.frame _, fun h => by cases h⟩

theorem over : Rows.lawS5870AWholeRow.holds Yba.pinned (OpenSpec.ofChange Rows.lawS5870AWholeSpec) :=
  OpenClaim.holds_of_wide 3 Yba.f3 rfl rfl rfl rfl rfl rfl rfl ⟨rfl, rfl, rfl, rfl, rfl⟩ rfl rfl rfl rfl rfl (by kernel_rfl) Yba.func3 (by kernel_rfl)
    (of_decide_eq_true (by kernel_rfl)) (by unfold Func.isWrapper; first | (rw [if_pos (by decide +kernel)]; kernel_rfl) | (rw [if_neg (by decide +kernel)]; exact ⟨rfl, rfl⟩))
    (fun os started H enc _ => lifted os started H enc)

theorem proved : Rows.LawS5870AWholeSaid :=
  over
end Go.Proofs.Ybulkdqnu
