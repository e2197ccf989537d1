import Derived.Test.YbulkdqpkBuilder
import Derived.Test.YbulkdqpkPlain
import Derived.Deep.LoopGhost
import Derived.Deep.DeepCutAuto
import Derived.Deep.Light
namespace Go.Proofs.Ybulkdqpk
open Go.RowKit

theorem hideIt {p : Prop} (h : p) : Hid p := h

/-- The state of writeRegex' loop: the builder holds bs and then acc; the iterator stands at pos. -/
structure RxSt (B b : Nat) (bs : List Value) (s : ByteArray) (k : Nat) (w wr : World) (pos : Nat) (acc : List UInt8) : Prop where
  bld : Lib.IsBuilderF 25 5 B b (bs ++ Lib.byteCells acc) wr
  it : wr.heap[k]? = some (.stringIter s pos)
  bel : Below B w wr

theorem RxSt.lt {B b : Nat} {bs : List Value} {s : ByteArray} {k : Nat} {w wr : World} {pos : Nat} {acc : List UInt8} (h : RxSt B b bs s k w wr pos acc) : k < wr.heap.size := block_lt h.it

theorem rx_next {B b : Nat} {bs : List Value} {s : ByteArray} {k : Nat} {w wr : World} {pos : Nat} {acc : List UInt8} (h : RxSt B b bs s k w wr pos acc) (hk : B ≤ k) (pos' : Nat) : RxSt B b bs s k w (wr.iterAt k s pos') pos' acc :=
  ⟨h.bld.iterAt h.it pos', Lib.iterAt_heap wr k s pos pos' h.it, Lib.below_iterAt h.bel hk s pos'⟩

theorem rx_wrote {B b : Nat} {bs : List Value} {s : ByteArray} {k : Nat} {w wr w' : World} {pos : Nat} {acc : List UInt8} (h : RxSt B b bs s k w wr pos acc) (hkb : k ≠ b) {more : List UInt8} (hw : Wrote B b (bs ++ Lib.byteCells acc ++ Lib.byteCells more) wr w') : RxSt B b bs s k w w' pos (acc ++ more) := by
  obtain ⟨h1, h2, h3⟩ := hw
  refine ⟨Or.inr ?_, h3.iter h.it hkb, h.bel.trans h2⟩
  rw [Lib.byteCells_append, ← List.append_assoc]
  exact h1

theorem cells_len (bs : List Value) (acc : List UInt8) : (bs ++ Lib.byteCells acc).length = bs.length + acc.length := by simp [Lib.byteCells_length]

set_option maxHeartbeats 4000000 in
set_option maxRecDepth 1000000 in
theorem regex_any (B b : Nat) (bs : List Value) (s : ByteArray) (w : World) (h : Lib.IsBuilderF 25 5 B b bs w) (hs : s.size ≤ 1048576) (hlen : bs.length ≤ 1048576) (hBw : B ≤ w.heap.size) :
    Calls Yba.prog 5 #[.pointer (some ⟨b, 0, none⟩), .string s] w fun e w' => e = .returned (.tuple #[]) ∧ Lib.IsBuilderF 25 5 B b (bs ++ Lib.byteCells ([35, 34] ++ (esc false (rl s s.size 0) ++ [34]))) w' ∧ Below B w w' := by
  go_enter Yba.func5, Yba.ntmps5
  go_wp2_with fail
  refine (writeString_any B b bs ⟨#[35, 34]⟩ w h (by show bs.length + 2 ≤ _; omega) hBw).mono ?_
  rintro e w1 ⟨rfl, h1, b1, k1⟩
  have hbl : b < w1.heap.size := by obtain ⟨_, v, hb, _⟩ := h1; exact block_lt hb
  have hI0 : Lib.IsBuilderF 25 5 B b (bs ++ Lib.byteCells [35, 34]) w1 := Or.inr h1
  clear h1 k1
  go_wp2_with fail
  have hS0 : RxSt B b bs s w1.heap.size w (w1.iter s 0) 0 [35, 34] := ⟨hI0.alloc _, World.iter_heap w1 s 0, b1.alloc (by have := b1.size; omega) _⟩
  have hkb : w1.heap.size ≠ b := by omega
  have hkB : B ≤ w1.heap.size := by have := b1.size; omega
  clear hI0 b1
  generalize w1.iter s 0 = w2 at hS0 ⊢
  generalize w1.heap.size = k at hS0 hkb hkB ⊢
  obtain ⟨tot, htot⟩ : ∃ tot, [35, 34] ++ esc false (rl s s.size 0) = tot := ⟨_, rfl⟩
  have Htot := hideIt htot
  clear htot
  go_loopg [4] s.size (fun g s4 wr => ∃ (pos : Nat) (acc : List UInt8) (e : Bool), s4 = .bool e ∧ RxSt B b bs s k w wr pos acc ∧ acc ++ esc e (rl s g pos) = tot ∧ s.size ≤ pos + g ∧ acc.length + 5 * g ≤ 2 + 5 * s.size)
  case atStart => exact ⟨0, [35, 34], false, rfl, hS0, Htot.out, by omega, by simp⟩
  case round =>
    clear hS0
    obtain ⟨pos, acc, e, rfl, hS, hacc, hfu, hal⟩ := hrel
    have Hacc := hideIt hacc
    clear hacc
    by_cases hp : pos < s.size
    · have hnx : ∀ ty, (Instr.next (.pointer (some ⟨k, 0, none⟩)) true ty).run Yba.prog wr = _ := fun ty => Lib.run_next_any_at wr k s pos ty hS.it hp
      have hwd := width_pos s pos hp
      have hd1 := decode_le s pos
      obtain ⟨f, rfl⟩ : ∃ f, gk = f + 1 := ⟨gk - 1, by omega⟩
      have hst := Hacc.out
      rw [rl, if_pos hp] at hst
      generalize (Utf8.decode s pos).1 = r at hnx hd1 hst
      generalize (Utf8.decode s pos).2 = wd at hnx hwd hst
      have Hst := hideIt hst
      clear hst Hacc
      have hS2 := rx_next hS hkB (pos + wd)
      have hB2 : B ≤ (wr.iterAt k s (pos + wd)).heap.size := by have := hS2.lt; omega
      have hl4 := enc_len (r : Int)
      cases e
      · by_cases h34 : r = 34
        · have hq : ((r : Int) == 34) = true := by simp [h34]
          have hb : ((r : Int) == 92) = false := by simp [h34]
          have hst2 : (acc ++ [92] ++ Lib.encodeRune (r : Int)) ++ esc false (rl s f (pos + wd)) = tot := by
            rw [← Hst.out, esc, if_pos ⟨h34, rfl⟩]
            simp [h34]
          have Hst2 := hideIt hst2
          clear hst2 Hst h34
          go_wp2_with fail
          refine (writeByte_any B b (bs ++ Lib.byteCells acc) 92 _ hS2.bld (by rw [cells_len]; omega) hB2).mono ?_
          rintro e W1 ⟨rfl, hW1⟩
          have hS3 := rx_wrote hS2 hkb (more := [92]) hW1
          have hB3 : B ≤ W1.heap.size := by have := hS3.lt; omega
          clear hW1 hS2 hS hnx
          go_wp2_with fail
          refine (writeRune_any B b (bs ++ Lib.byteCells (acc ++ [92])) (r : Int) (by omega) (by omega) W1 hS3.bld (by rw [cells_len]; simp; omega) hB3).mono ?_
          rintro e W2 ⟨rfl, hW2⟩
          rw [enc_cells] at hW2
          have hS4 := rx_wrote hS3 hkb hW2
          clear hW2 hS3
          go_wp2
          go_roundg f
          case measure => go_light; omega
          case rel =>
            go_light
            exact ⟨pos + wd, _, false, rfl, hS4, Hst2.out, by omega, by simp; omega⟩
        · have hq : ((r : Int) == 34) = false := by simp; omega
          by_cases h92 : r = 92
          · have hb : ((r : Int) == 92) = true := by simp [h92]
            have hst2 : (acc ++ Lib.encodeRune (r : Int)) ++ esc true (rl s f (pos + wd)) = tot := by
              rw [← Hst.out, esc, if_neg (fun q => h34 q.1)]
              simp [h92]
            have Hst2 := hideIt hst2
            clear hst2 Hst h34 h92
            go_wp2_with fail
            refine (writeRune_any B b (bs ++ Lib.byteCells acc) (r : Int) (by omega) (by omega) _ hS2.bld (by rw [cells_len]; omega) hB2).mono ?_
            rintro e W2 ⟨rfl, hW2⟩
            rw [enc_cells] at hW2
            have hS4 := rx_wrote hS2 hkb hW2
            clear hW2 hS2 hS hnx
            go_wp2
            go_roundg f
            case measure => go_light; omega
            case rel =>
              go_light
              exact ⟨pos + wd, _, true, rfl, hS4, Hst2.out, by omega, by simp; omega⟩
          · have hb : ((r : Int) == 92) = false := by simp; omega
            have hst2 : (acc ++ Lib.encodeRune (r : Int)) ++ esc false (rl s f (pos + wd)) = tot := by
              rw [← Hst.out, esc, if_neg (fun q => h34 q.1)]
              simp [h92]
            have Hst2 := hideIt hst2
            clear hst2 Hst h34 h92
            go_wp2_with fail
            refine (writeRune_any B b (bs ++ Lib.byteCells acc) (r : Int) (by omega) (by omega) _ hS2.bld (by rw [cells_len]; omega) hB2).mono ?_
            rintro e W2 ⟨rfl, hW2⟩
            rw [enc_cells] at hW2
            have hS4 := rx_wrote hS2 hkb hW2
            clear hW2 hS2 hS hnx
            go_wp2
            go_roundg f
            case measure => go_light; omega
            case rel =>
              go_light
              exact ⟨pos + wd, _, false, rfl, hS4, Hst2.out, by omega, by simp; omega⟩
      · have hst2 : (acc ++ Lib.encodeRune (r : Int)) ++ esc false (rl s f (pos + wd)) = tot := by
          rw [← Hst.out, esc, if_neg (fun q => by cases q.2)]
          simp
        have Hst2 := hideIt hst2
        clear hst2 Hst
        obtain ⟨q, hq⟩ : ∃ q, ((r : Int) == 34) = q := ⟨_, rfl⟩
        obtain ⟨q2, hb⟩ : ∃ q2, ((r : Int) == 92) = q2 := ⟨_, rfl⟩
        cases q <;> cases q2
        all_goals
          go_wp2_with fail
          refine (writeRune_any B b (bs ++ Lib.byteCells acc) (r : Int) (by omega) (by omega) _ hS2.bld (by rw [cells_len]; omega) hB2).mono ?_
          rintro e W2 ⟨rfl, hW2⟩
          rw [enc_cells] at hW2
          have hS4 := rx_wrote hS2 hkb hW2
          clear hW2 hS2 hS hnx
          go_wp2
          go_roundg f
          case measure => go_light; omega
          case rel =>
            go_light
            exact ⟨pos + wd, _, false, rfl, hS4, Hst2.out, by omega, by simp; omega⟩
    · have hnx : ∀ ty, (Instr.next (.pointer (some ⟨k, 0, none⟩)) true ty).run Yba.prog wr = _ := fun ty => Lib.run_next_end_at wr k s pos ty hS.it hp
      have hfin : acc = tot := by
        rw [← Hacc.out, rl_end s gk pos hp]
        simp [esc]
      have hB2 : B ≤ wr.heap.size := by have := hS.lt; omega
      have hF : bs ++ Lib.byteCells acc ++ [.int .u8 34] = bs ++ Lib.byteCells ([35, 34] ++ (esc false (rl s s.size 0) ++ [34])) := by
        rw [← List.append_assoc [35, 34], Htot.out, ← hfin, Lib.byteCells_append, ← List.append_assoc]
        rfl
      have HF := hideIt hF
      clear hfin hF Hacc
      go_wp2_with fail
      refine (writeByte_any B b (bs ++ Lib.byteCells acc) 34 wr hS.bld (by rw [cells_len]; omega) hB2).mono ?_
      rintro e W2 ⟨rfl, h1, h2, h3⟩
      rw [HF.out] at h1
      have HB := hideIt (hS.bel.trans h2)
      have HI := hideIt (Or.inr h1 : Lib.IsBuilderF 25 5 B b _ W2)
      clear h1 h2 h3 hS hnx
      go_wp2
      go_end0
      exact ⟨rfl, HI.out, HB.out⟩

end Go.Proofs.Ybulkdqpk
