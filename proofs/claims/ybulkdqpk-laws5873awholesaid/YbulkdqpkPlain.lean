/-
  DERIVED. The plain functions of the regular expression's literal: the runes of a string, what is written for each; that counting backslashes and a flag say the same.
-/
import Derived.Laws.IdiomStrings
import Derived.Laws.RangeAny
import Derived.Lib.RuneBytes
import Derived.Lib.UnsafeStr
namespace Go.Proofs.Ybulkdqpk
open Go

/-- The runes of s from place pos on, at most 'fuel' of them. -/
def rl (s : ByteArray) : Nat → Nat → List Nat
  | 0, _ => []
  | fuel + 1, pos => if pos < s.size then (Utf8.decode s pos).1 :: rl s fuel (pos + (Utf8.decode s pos).2) else []

theorem rl_end (s : ByteArray) (fuel pos : Nat) (h : ¬ pos < s.size) : rl s fuel pos = [] := by
  cases fuel with
  | zero => rfl
  | succ f => simp [rl, h]

theorem rl_bd (s : ByteArray) : ∀ (fuel pos : Nat), ∀ r ∈ rl s fuel pos, r ≤ 2147483647
  | 0, _, r, h => by simp [rl] at h
  | fuel + 1, pos, r, h => by
    rw [rl] at h
    split at h
    · rcases List.mem_cons.1 h with rfl | h
      · exact decode_le s pos
      · exact rl_bd s fuel _ r h
    · simp at h

theorem rl_len (s : ByteArray) : ∀ (fuel pos : Nat), (rl s fuel pos).length ≤ fuel
  | 0, _ => by simp [rl]
  | fuel + 1, pos => by
    rw [rl]
    split
    · have := rl_len s fuel (pos + (Utf8.decode s pos).2)
      simp
      omega
    · simp

theorem width_pos (s : ByteArray) (pos : Nat) (h : pos < s.size) : 1 ≤ (Utf8.decode s pos).2 := by
  by_cases ha : (s[pos]'h).toNat < 128
  · rw [decode_ascii s pos h ha]
    exact Nat.le_refl _
  · exact (decode_high s pos h (by omega)).2

/-- The conversion to runes, as the model has it. -/
theorem runesFrom_rl (s : ByteArray) : ∀ (fuel pos : Nat) (acc : Array Value), Conv.runesFrom s fuel pos acc = acc ++ ((rl s fuel pos).map (fun (r : Nat) => Value.int .i32 (r : Int))).toArray
  | 0, _, acc => by simp [Conv.runesFrom, rl]
  | fuel + 1, pos, acc => by
    unfold Conv.runesFrom
    rw [rl]
    split
    · have ih := runesFrom_rl s fuel (pos + (Utf8.decode s pos).2) (acc.push (Value.int .i32 (Int.ofNat (Utf8.decode s pos).1)))
      refine Eq.trans ih ?_
      simp
    · simp

/-- What writeRegex writes for the runes, 'escaped' being e. -/
def esc : Bool → List Nat → List UInt8
  | _, [] => []
  | e, r :: rs => (if r = 34 ∧ e = false then [92] else []) ++ Lib.encodeRune (r : Int) ++ esc (decide (r = 92) && !e) rs

/-- What the law's model writes, n backslashes standing just ahead. -/
def mdl : Nat → List Nat → List UInt8
  | _, [] => []
  | n, r :: rs => (if r = 34 ∧ n % 2 = 0 then [92] else []) ++ Lib.encodeRune (r : Int) ++ mdl (if r = 92 then n + 1 else 0) rs

theorem mdl_esc : ∀ (rs : List Nat) (n : Nat), mdl n rs = esc (decide (n % 2 = 1)) rs
  | [], n => by simp [mdl, esc]
  | r :: rs, n => by
    rw [mdl, esc, mdl_esc rs]
    have e1 : (if r = 34 ∧ n % 2 = 0 then [(92 : UInt8)] else []) = (if r = 34 ∧ decide (n % 2 = 1) = false then [92] else []) := by
      by_cases h : n % 2 = 0
      · simp [h]
      · have h' : decide (n % 2 = 1) = true := by simp; omega
        simp [h, h']
    have e2 : decide ((if r = 92 then n + 1 else 0) % 2 = 1) = (decide (r = 92) && !decide (n % 2 = 1)) := by
      by_cases h : r = 92
      · rw [if_pos h]
        by_cases h2 : n % 2 = 1
        · have : ¬ ((n + 1) % 2 = 1) := by omega
          simp [h, h2, this]
        · have : (n + 1) % 2 = 1 := by omega
          simp [h, h2, this]
      · simp [h]
    rw [e1, e2]

theorem enc_len (r : Int) : (Lib.encodeRune r).length ≤ 4 := by
  have h := Lib.runeCells_le r
  rw [← Lib.byteCells_encodeRune, Lib.byteCells_length] at h
  omega

theorem enc_cells (r : Int) : Lib.runeCells r = Lib.byteCells (Lib.encodeRune r) := (Lib.byteCells_encodeRune r).symm

/-- All that is written. -/
def whole (p s : ByteArray) : List UInt8 := p.data.toList ++ ([35, 34] ++ (esc false (rl s s.size 0) ++ [34]))

end Go.Proofs.Ybulkdqpk
