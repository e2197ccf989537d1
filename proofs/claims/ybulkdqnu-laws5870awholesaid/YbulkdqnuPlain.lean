/-
  DERIVED. The plain mathematics of the ring: big-endian values of byte lists, the distance key, the lexicographic tests.
-/
import Derived.Lib.Bytealg
namespace Go.Proofs.Ybulkdqnu.Ring
open Go.Lib (compareBytes)

/-- The number that a list of bytes reads as, big-endian. -/
def val : List UInt8 → Nat
  | [] => 0
  | a :: l => a.toNat * 256 ^ l.length + val l

theorem u8_lt (a : UInt8) : a.toNat < 256 := a.toNat_lt

theorem val_lt : ∀ l : List UInt8, val l < 256 ^ l.length
  | [] => by simp [val]
  | a :: l => by
    have h := val_lt l
    have ha := u8_lt a
    have h2 : (a.toNat + 1) * 256 ^ l.length ≤ 256 * 256 ^ l.length := Nat.mul_le_mul_right _ (by omega)
    rw [Nat.add_mul, Nat.one_mul] at h2
    rw [val, List.length_cons, Nat.pow_succ, Nat.mul_comm (256 ^ l.length) 256]
    omega

/-- Two heads and two tails: who is less. -/
theorem val_head_lt {a b : UInt8} {l m : List UInt8} (hl : l.length = m.length) (h : a < b) : val (a :: l) < val (b :: m) := by
  have h1 := val_lt l
  have hab : a.toNat + 1 ≤ b.toNat := h
  have h2 : (a.toNat + 1) * 256 ^ m.length ≤ b.toNat * 256 ^ m.length := Nat.mul_le_mul_right _ hab
  rw [Nat.add_mul, Nat.one_mul] at h2
  rw [val, val, hl]
  rw [hl] at h1
  omega

theorem val_same {a : UInt8} {l m : List UInt8} (hl : l.length = m.length) : (val (a :: l) < val (a :: m) ↔ val l < val m) ∧ (val (a :: l) = val (a :: m) ↔ val l = val m) := by
  rw [val, val, hl]
  omega

theorem cmp_val : ∀ (l m : List UInt8), l.length = m.length → (compareBytes l m = -1 ∧ val l < val m) ∨ (compareBytes l m = 0 ∧ val l = val m ∧ l = m) ∨ (compareBytes l m = 1 ∧ val m < val l)
  | [], [], _ => by simp [compareBytes]
  | a :: l, b :: m, h => by
    have hl : l.length = m.length := by simpa using h
    rw [compareBytes]
    by_cases h1 : a < b
    · rw [if_pos h1]; exact .inl ⟨rfl, val_head_lt hl h1⟩
    · by_cases h2 : b < a
      · rw [if_neg h1, if_pos h2]; exact .inr (.inr ⟨rfl, val_head_lt hl.symm h2⟩)
      · rw [if_neg h1, if_neg h2]
        have e : a = b := UInt8.le_antisymm (UInt8.not_lt.1 h2) (UInt8.not_lt.1 h1)
        subst e
        have hs := val_same (a := a) hl
        have hs' := val_same (a := a) hl.symm
        rcases cmp_val l m hl with ⟨c, v⟩ | ⟨c, v, e⟩ | ⟨c, v⟩
        · exact .inl ⟨c, hs.1.2 v⟩
        · exact .inr (.inl ⟨c, hs.2.2 v, by rw [e]⟩)
        · exact .inr (.inr ⟨c, hs'.1.2 v⟩)

/-- What zzs5870aless answers. -/
def lt : List UInt8 → List UInt8 → Bool
  | a :: l, b :: m => if a = b then lt l m else decide (a < b)
  | _, _ => false

theorem lt_val : ∀ (l m : List UInt8), l.length = m.length → (lt l m = true ↔ val l < val m)
  | [], [], _ => by simp [lt, val]
  | a :: l, b :: m, h => by
    have hl : l.length = m.length := by simpa using h
    rw [lt]
    by_cases e : a = b
    · subst e
      rw [if_pos rfl, lt_val l m hl, (val_same hl).1]
    · rw [if_neg e, decide_eq_true_eq]
      constructor
      · exact val_head_lt hl
      · intro hv
        by_cases h1 : a < b
        · exact h1
        · have h2 : b < a := UInt8.lt_of_le_of_ne (UInt8.not_lt.1 h1) (fun q => e q.symm)
          have := val_head_lt hl.symm h2
          omega

/-- The borrow and the digits of x - a - 1. -/
def keyB : List UInt8 → List UInt8 → Int × List UInt8
  | a :: l, x :: m =>
    (if (x.toNat : Int) - a.toNat - (keyB l m).1 < 0 then 1 else 0,
     (if (x.toNat : Int) - a.toNat - (keyB l m).1 < 0 then (x.toNat : Int) - a.toNat - (keyB l m).1 + 256 else (x.toNat : Int) - a.toNat - (keyB l m).1).toNat.toUInt8 :: (keyB l m).2)
  | _, _ => (1, [])

/-- What zzs5870akey answers. -/
def key (a x : List UInt8) : List UInt8 := (keyB a x).2

theorem keyB_bd : ∀ (l m : List UInt8), (keyB l m).1 = 0 ∨ (keyB l m).1 = 1
  | [], _ => by simp [keyB]
  | _ :: _, [] => by simp [keyB]
  | a :: l, x :: m => by rw [keyB]; by_cases h : (x.toNat : Int) - a.toNat - (keyB l m).1 < 0 <;> simp [h]

theorem keyB_len : ∀ (l m : List UInt8), l.length = m.length → (keyB l m).2.length = l.length
  | [], [], _ => by simp [keyB]
  | a :: l, x :: m, h => by
    have hl : l.length = m.length := by simpa using h
    rw [keyB]
    simp [keyB_len l m hl]

theorem digit {v : Int} (h1 : 0 ≤ v) (h2 : v < 256) : ((v.toNat.toUInt8).toNat : Int) = v := by
  have : v.toNat.toUInt8.toNat = v.toNat % 256 := by simp
  omega

theorem keyB_val : ∀ (l m : List UInt8), l.length = m.length → (val (keyB l m).2 : Int) = (val m : Int) - val l - 1 + (keyB l m).1 * ((256 ^ l.length : Nat) : Int)
  | [], [], _ => by simp [keyB, val]
  | a :: l, x :: m, h => by
    have hl : l.length = m.length := by simpa using h
    have ih := keyB_val l m hl
    have hb := keyB_bd l m
    have ha := u8_lt a
    have hx := u8_lt x
    have hlen := keyB_len l m hl
    rw [keyB]
    simp only [val]
    rw [hlen, ← hl, List.length_cons, Nat.pow_succ]
    generalize 256 ^ l.length = p at *
    generalize hbw : (keyB l m).1 = bw at *
    generalize val (keyB l m).2 = vk at *
    generalize val l = vl at *
    generalize val m = vm at *
    have hd : ∃ d : Int, (((if (x.toNat : Int) - a.toNat - bw < 0 then (x.toNat : Int) - a.toNat - bw + 256 else (x.toNat : Int) - a.toNat - bw).toNat.toUInt8).toNat : Int) = (x.toNat : Int) - a.toNat - bw + d * 256 ∧ d = (if (x.toNat : Int) - a.toNat - bw < 0 then 1 else 0) := by
      by_cases hv : (x.toNat : Int) - a.toNat - bw < 0
      · refine ⟨1, ?_, by rw [if_pos hv]⟩
        rw [if_pos hv, digit (by omega) (by omega)]; omega
      · refine ⟨0, ?_, by rw [if_neg hv]⟩
        rw [if_neg hv, digit (by omega) (by omega)]; omega
    obtain ⟨d, hd1, hd2⟩ := hd
    rw [← hd2]
    simp only [Int.natCast_add, Int.natCast_mul]
    rw [hd1]
    have e1 : ((x.toNat : Int) - a.toNat - bw + d * 256) * (p : Int) = (x.toNat : Int) * p - (a.toNat : Int) * p - bw * p + d * ((p : Int) * 256) := by
      rw [Int.add_mul, Int.sub_mul, Int.sub_mul, Int.mul_assoc, Int.mul_comm 256 (p : Int)]
    rw [e1]
    have e2 : ((256 : Nat) : Int) = 256 := rfl
    rw [e2]
    omega

/-- The key's number: the distance from a round to x, less one. -/
theorem key_val (l m : List UInt8) (h : l.length = m.length) : (val m ≤ val l ∧ (val (key l m) : Int) = (val m : Int) - val l - 1 + ((256 ^ l.length : Nat) : Int)) ∨ (val l < val m ∧ (val (key l m) : Int) = (val m : Int) - val l - 1) := by
  have hv := keyB_val l m h
  have hk := val_lt (keyB l m).2
  rw [keyB_len l m h] at hk
  unfold key
  generalize hp : 256 ^ l.length = p at *
  generalize val (keyB l m).2 = vk at *
  rcases keyB_bd l m with hb | hb
  · rw [hb] at hv
    right
    omega
  · rw [hb] at hv
    left
    omega

theorem key_len (l m : List UInt8) (h : l.length = m.length) : (key l m).length = l.length := keyB_len l m h

/-- What (ID).Between answers. -/
def bet (p a b : List UInt8) : Bool :=
  if compareBytes a b = -1 then decide (compareBytes a p < 0) && decide (compareBytes p b < 0)
  else if compareBytes a b = 1 then decide (compareBytes a p < 0) || decide (compareBytes p b < 0)
  else !(decide (p = a))

/-- THE HEART: p lies between a and b just where p's key is less than b's. -/
theorem bet_eq (p a b : List UInt8) (hp : p.length = a.length) (hb : b.length = a.length) : bet p a b = lt (key a p) (key a b) := by
  rw [Bool.eq_iff_iff, lt_val _ _ (by rw [key_len _ _ hp.symm, key_len _ _ hb.symm])]
  have k1 := key_val a p hp.symm
  have k2 := key_val a b hb.symm
  have v1 := val_lt p
  have v2 := val_lt a
  have v3 := val_lt b
  rw [hp] at v1
  rw [hb] at v3
  generalize 256 ^ a.length = M at *
  unfold bet
  rcases cmp_val a b hb.symm with ⟨c1, u1⟩ | ⟨c1, u1, e1⟩ | ⟨c1, u1⟩ <;> rcases cmp_val a p hp.symm with ⟨c2, u2⟩ | ⟨c2, u2, e2⟩ | ⟨c2, u2⟩ <;> rcases cmp_val p b (by omega) with ⟨c3, u3⟩ | ⟨c3, u3, e3⟩ | ⟨c3, u3⟩ <;>
    rw [c1, c2, c3] <;> simp only [Int.reduceNeg, reduceIte, Int.reduceLT, decide_true, decide_false, Bool.and_true, Bool.and_false, Bool.or_true, Bool.or_false, Bool.false_eq_true, Int.reduceEq, Bool.not_eq_true', decide_eq_false_iff_not, true_iff, false_iff, Int.reduceNeg] <;>
    first
      | omega
      | (have hne : ¬ p = a := fun q => by rw [q] at u2; omega
         simp only [hne, not_false_eq_true, true_iff]; omega)
      | (subst e2
         simp only [not_true_eq_false, false_iff]
         omega)

/-- The first index of the least, the test 'c i b': 'i is less than b'. -/
def bestI (c : Nat → Nat → Bool) : Nat → Nat
  | 0 => 0
  | k + 1 => if c (k + 1) (bestI c k) then k + 1 else bestI c k

theorem bestI_le (c : Nat → Nat → Bool) : ∀ k, bestI c k ≤ k
  | 0 => Nat.le_refl _
  | k + 1 => by
    have := bestI_le c k
    rw [bestI]
    split <;> omega

theorem bestI_congr {c d : Nat → Nat → Bool} : ∀ k, (∀ i j, i ≤ k → j ≤ k → c i j = d i j) → bestI c k = bestI d k
  | 0, _ => rfl
  | k + 1, h => by
    have ih := bestI_congr k (fun i j hi hj => h i j (by omega) (by omega))
    rw [bestI, bestI, ih, h (k + 1) (bestI d k) (Nat.le_refl _) (by have := bestI_le d k; omega)]

end Go.Proofs.Ybulkdqnu.Ring
