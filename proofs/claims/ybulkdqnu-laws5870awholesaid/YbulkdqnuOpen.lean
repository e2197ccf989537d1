import Derived.Test.YbulkdqnuMem
import Derived.ProofKit
import Derived.OpenShut
import Derived.Deep.Slices
namespace Go.Proofs.Ybulkdqnu
open Go.RowKit Ring
open Go.Lib (byteCells byteCells_length)

section
variable {H : Type} {enc : TypeId × Value → H} {w : World} {base : Nat} {spare : Nat → Bool} {held : Bool} {fuel : Nat} {cs : List Value} {x : DataW H × List MemPlace}

theorem u8_of_wf {n : Int} (h : (Lit.int .u8 n).wf = true) : ∃ b : UInt8, n = (b.toNat : Int) := by
  have e1 : IntKind.u8.min = 0 := rfl
  have e2 : IntKind.u8.max = 255 := rfl
  simp [Lit.wf, e1, e2] at h
  refine ⟨n.toNat.toUInt8, ?_⟩
  rw [digit (by omega) (by omega)]

theorem bytes_of (n : Nat) : ∀ (cs : List Value), cs.length = n → (∀ i, i < n → ∃ b : UInt8, cs[i]? = some (.int .u8 (b.toNat : Int))) → ∃ l : List UInt8, l.length = n ∧ cs = byteCells l := by
  induction n with
  | zero =>
    intro cs h _
    exact ⟨[], rfl, List.eq_nil_of_length_eq_zero h⟩
  | succ n ih =>
    intro cs h hc
    cases cs with
    | nil => simp at h
    | cons c cs =>
      obtain ⟨b, hb⟩ := hc 0 (by omega)
      obtain ⟨l, hl, rfl⟩ := ih cs (by simpa using h) (fun i hi => by simpa using hc (i + 1) (by omega))
      refine ⟨b :: l, by simp [hl], ?_⟩
      simp at hb
      simp [byteCells, hb]

/-- An identifier that can be read is twenty bytes. -/
theorem id_of_trod (h : DataW.trod enc Yba.prog w base spare held fuel 23 cs = some x) : ∃ l : List UInt8, l.length = 20 ∧ cs = byteCells l := by
  obtain ⟨xs, m, _, _, hlen, hxs, hel⟩ := DataW.trod_array Yba.underlying23 h
  rw [Yba.cells23] at hlen
  refine bytes_of 20 cs hlen (fun i hi => ?_)
  have h1 := hel i hi
  rw [Yba.cells5, Nat.mul_one] at h1
  have hx : xs[i]? = some xs[i] := List.getElem?_eq_getElem (by omega)
  rw [hx] at h1
  obtain ⟨n, hn, _, hwf⟩ := DataW.trod_int Yba.underlying5 h1
  obtain ⟨b, rfl⟩ := u8_of_wf hwf
  refine ⟨b, ?_⟩
  have h2 : ((cs.drop i).take 1)[0]? = some (.int .u8 (b.toNat : Int)) := by rw [hn]; rfl
  rw [List.getElem?_take_of_lt (by omega), List.getElem?_drop] at h2
  simpa using h2

/-- A peer that can be read is twenty bytes and a string. -/
theorem peer_of_trod (h : DataW.trod enc Yba.prog w base spare held fuel 27 cs = some x) : ∃ q : List UInt8 × ByteArray, q.1.length = 20 ∧ q.2.size ≤ maxLen ∧ cs = pcells q := by
  obtain ⟨xs, m, _, _, hlen, hxs, hel⟩ := DataW.trod_struct Yba.underlying27 h
  rw [Yba.cells27] at hlen
  have hx2 : xs.length = 2 := hxs
  have h0 : DataW.trod enc Yba.prog w base spare held m 23 ((cs.drop 0).take (Yba.prog.cellsOf 23)) = xs[0]? := hel 0 _ rfl
  have h1 : DataW.trod enc Yba.prog w base spare held m 9 ((cs.drop 20).take (Yba.prog.cellsOf 9)) = xs[1]? := hel 1 _ rfl
  rw [List.getElem?_eq_getElem (by omega)] at h0 h1
  rw [Yba.cells23] at h0
  rw [Yba.cells9] at h1
  obtain ⟨l, hl, e0⟩ := id_of_trod h0
  obtain ⟨s, e1, _, hs⟩ := DataW.trod_string Yba.underlying9 h1
  refine ⟨(l, s), hl, hs, ?_⟩
  show cs = byteCells l ++ [.string s]
  rw [← e0, ← e1, List.drop_zero]
  have e2 : (cs.drop 20).take 1 = cs.drop 20 := List.take_of_length_le (by rw [List.length_drop]; omega)
  rw [e2, List.take_append_drop]

theorem mapM_get {α β : Type} {f : α → Option β} : ∀ {l : List α} {r : List β}, l.mapM f = some r → ∀ (j : Nat) (v : β), r[j]? = some v → ∃ a, l[j]? = some a ∧ f a = some v
  | [], r, h, j, v, hv => by
    simp at h
    subst h
    simp at hv
  | a :: l, r, h, j, v, hv => by
    rw [List.mapM_cons] at h
    simp only [bind, Option.bind_eq_some_iff, pure, Option.some.injEq] at h
    obtain ⟨b, hb, r', hr, rfl⟩ := h
    cases j with
    | zero => simp at hv; subst hv; exact ⟨a, rfl, hb⟩
    | succ j => exact mapM_get hr j v (by simpa using hv)

/-- Cells that are read from an address on lie there. -/
theorem range_of_cells {a : Addr} {n : Nat} (h : w.cells? base a n = some cs) : ∀ j v, cs[j]? = some v → w.cell? (a.add j) = some v := by
  unfold World.cells? at h
  split at h
  · intro j v hv
    obtain ⟨i, hi, he⟩ := mapM_get h j v hv
    obtain ⟨hj, rfl⟩ := List.getElem?_eq_some_iff.1 hi
    simpa using he
  · cases h

end
end Go.Proofs.Ybulkdqnu
