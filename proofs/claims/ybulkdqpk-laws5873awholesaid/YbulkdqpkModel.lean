import Derived.Test.YbulkdqpkRegex
import Derived.Laws.MakeOwn
import Derived.Deep.WholeRow
namespace Go.Proofs.Ybulkdqpk
open Go.RowKit

/-- 'make([]byte, 0, n)'. -/
theorem make23 (n : Nat) (c : Int) (hc : c = (n : Int)) (hn : n ≤ 100000000) : ∃ Z : Array Value, Z.size = n ∧ ∀ w, (Instr.makeSlice 23 (.int .i64 0) (.int .i64 c)).run Yba.prog w = .ok (.slice (some ⟨w.heap.size, 0, none⟩) 0 n) (w.alloc (.cells Z 5)) := by
  obtain ⟨i0, hi, hz0, hz1, hz2⟩ := info_parts Yba.infoByte
  refine ⟨madeCells #[.int .u8 0] n, size_madeCells _ _, fun w => ?_⟩
  subst hc
  have := run_make (P := Yba.prog) w 23 5 i0 (.int .u8 0) Yba.underlying23 hi hz0 .i64 .i64 0 n (by omega) (by omega) (by rw [hz2]; omega) (by omega)
  rw [this, hz1, Int.toNat_natCast, Nat.mul_one]
  rfl

theorem owns_start (w : World) (Z : Array Value) (n : Nat) (hZ : Z.size = n) (hn : n ≤ 100000000) : (w.alloc (.cells Z 5)).ownsRowF w.heap.size 5 1 (.slice (some ⟨w.heap.size, 0, none⟩) 0 n) 0 [] :=
  ⟨rfl, Or.inr ⟨w.heap.size, n, Z, (0, 0), rfl, Nat.le_refl _, heap_alloc_last w _, Nat.le_refl _, Nat.zero_le _, by unfold maxLen; omega, by omega, rfl⟩⟩

/-- The state of the model's loop: 'out' owns the bytes acc; the runes lie in block g2. -/
structure MdSt (w wr : World) (v : Value) (acc : List UInt8) (g2 : Nat) (RC : Array Value) : Prop where
  own : wr.ownsRowF w.heap.size 5 1 v acc.length (Lib.byteCells acc)
  bel : Below w.heap.size w wr
  rs : wr.heap[g2]? = some (.cells RC 21 (0, 0))

theorem own_form {w : World} {B n : Nat} {v : Value} {xs : List Value} (h : w.ownsRowF B 5 1 v n xs) : ∃ ao cap, v = .slice ao n cap := by
  rcases h.2 with ⟨hv, h0⟩ | ⟨g, cap, cur, fz, hv, _⟩
  · exact ⟨none, 0, by rw [hv, h0]⟩
  · exact ⟨_, _, hv⟩

/-- The capacity that the tape gives to the new slice of runes. -/
def capOf (s : ByteArray) (w : World) : Nat := grownCap w (rl s s.size 0).length 0 21
/-- The cells of the new slice of runes. -/
def rcOf (s : ByteArray) (w : World) : Array Value := ((rl s s.size 0).map (fun (r : Nat) => Value.int .i32 (r : Int))).toArray ++ Array.replicate (capOf s w - (rl s s.size 0).length) (.int .i32 0)

theorem rcOf_at (s : ByteArray) (w : World) (i : Nat) (h : i < (rl s s.size 0).length) : (rcOf s w)[i]? = some (.int .i32 (((rl s s.size 0)[i] : Nat) : Int)) := by
  unfold rcOf
  rw [Array.getElem?_append_left (by simpa using h)]
  simp [h]

/-- '[]rune(s)'. -/
theorem runes_run (s : ByteArray) (hs : s.size ≤ 1048576) (w : World) : (convert 9 37 (.string s)).run Yba.prog w = .ok (.slice (some ⟨w.heap.size, 0, none⟩) (rl s s.size 0).length (capOf s w)) (w.drew.alloc (.cells (rcOf s w) 21)) := by
  have e := runesFrom_rl s s.size 0 #[]
  have hl := rl_len s s.size 0
  have hsz : (Conv.runesFrom s s.size 0 #[]).size = (rl s s.size 0).length := by rw [e]; simp
  rw [run_runes_of_string (P := Yba.prog) w 9 37 21 s Yba.underlying9 Yba.underlying37 Yba.underlying21 (by omega), hsz]
  unfold rcOf capOf
  rw [e]
  simp

theorem md_grow {w wr w' : World} {v v' : Value} {acc more : List UInt8} {g2 : Nat} {RC : Array Value} (h : MdSt w wr v acc g2 RC) (hg : wr.grownBy w' v.ownBlock) (ho : w'.ownsRowF w.heap.size 5 1 v' (acc.length + more.length) (Lib.byteCells acc ++ Lib.byteCells more)) : MdSt w w' v' (acc ++ more) g2 RC := by
  refine ⟨by rw [List.length_append, Lib.byteCells_append]; exact ho, h.bel.grown hg (by have := h.bel.size; omega) (fun k hk => (h.own.lt k hk).1), ?_⟩
  have hk := (Lib.OthersKept.refl 5 none wr).grown hg (Lib.ownsRowF_kind h.own)
  exact hk g2 _ h.rs (by simp) (fun c fz e => by injection e with e1 e2; cases e2)

theorem md_alloc {w wr : World} {v : Value} {acc : List UInt8} {g2 : Nat} {RC : Array Value} (h : MdSt w wr v acc g2 RC) (o : Obj) : MdSt w (wr.alloc o) v acc g2 RC :=
  ⟨h.own.alloc o, h.bel.alloc (by have := h.bel.size; omega) o, by rw [Lib.alloc_old wr o g2 (block_lt h.rs)]; exact h.rs⟩

/-- 'string(out)' of an owned row of bytes. -/
theorem back_run {w : World} {B n : Nat} {v : Value} {l : List UInt8} (h : w.ownsRowF B 5 1 v n (Lib.byteCells l)) : (convert 23 9 v).run Yba.prog w = .ok (.string ⟨l.toArray⟩) w := by
  have hn : l.length = n := by have := h.1; rw [Lib.byteCells_length] at this; omega
  subst hn
  rcases h.2 with ⟨hv, h0⟩ | ⟨g, cap, cur, fz, hv, hb, hg, _, _, _, _, ht⟩
  · have : l = [] := List.length_eq_zero_iff.1 h0
    subst this
    subst hv
    rw [run_convert_bytes_string w 23 9 5 none 0 0 Yba.underlying23 Yba.underlying5 Yba.underlying9]
    rfl
  · subst hv
    refine run_convert_bytes_back w 23 9 5 _ cap l Yba.underlying23 Yba.underlying5 Yba.underlying9 fun j hj => ?_
    have e : (Lib.byteCells l)[j]? = some (.int .u8 (l[j].toNat : Int)) := by simp [Lib.byteCells, hj]
    rw [← ht, List.getElem?_take_of_lt (by omega)] at e
    have ea : (⟨g, 0, none⟩ : Addr).add j = ⟨g, j, none⟩ := by
      by_cases hj0 : j = 0
      · subst hj0; rfl
      · simp [Addr.add, hj0]
    rw [ea, Lib.cell_of_heap hg]
    simpa using e

set_option maxHeartbeats 4000000 in
set_option maxRecDepth 1000000 in
theorem model_any (p s : ByteArray) (w : World) (hs : s.size ≤ 1048576) (hp : p.size ≤ 1048576) :
    Calls Yba.prog 7 #[.string p, .string s] w fun e w' => e = .returned (.string ⟨(whole p s).toArray⟩) ∧ Below w.heap.size w w' := by
  obtain ⟨i0, hi, hz0, hz1, hz2⟩ := info_parts Yba.infoByte
  obtain ⟨Z, hZ, hmk⟩ := make23 (p.size + 2 * s.size + 8) ((p.size : Int) + 2 * (s.size : Int) + 8) (by omega) (by omega)
  have hown0 := owns_start w Z (p.size + 2 * s.size + 8) hZ (by omega)
  have hbel0 : Below w.heap.size w (w.alloc (.cells Z 5)) := (Below.refl _ _).alloc (Nat.le_refl _) _
  go_enter Yba.func7, Yba.ntmps7
  go_wp2_with (at_builtin; refine Lib.wpList_append_own_stringF _ rfl (.tmp 18) (.tmp 19) 23 9 rfl w.heap.size 5 i0 Yba.underlying23 Yba.underlying9 hi hz0 hz1 hz2 _ _ _ rfl hown0 p rfl ?c3 ?c4 ?c5 ?_)
  case c3 => unfold maxLen; omega
  case c4 => omega
  case c5 => simp
  intro v1 w1 hown1 hgrow1 _
  have hbel1 : Below w.heap.size w w1 := hbel0.grown hgrow1 (by simp) (fun k hk => (hown0.lt k hk).1)
  obtain ⟨ao1, cap1, rfl⟩ := own_form hown1
  clear hown0 hbel0 hgrow1 hmk
  have hsz1 := hbel1.size
  go_wp2_with (at_builtin; refine wpList_append_ownF _ rfl (.tmp 21) (.tmp 22) 23 rfl w.heap.size 5 i0 (.int .u8 0) 1 1 Yba.underlying23 hi hz0 hz1 hz2 rfl (by decide) _ _ _ rfl (hown1.alloc _) ⟨w1.heap.size, 0, none⟩ 2 2 [.int .u8 35, .int .u8 34] rfl rfl ?d1 ?d2 ?d3 ?d4 ?d5 ?_)
  case d1 =>
    intro j u hj
    match j, hj with
    | 0, hj => simp at hj; subst hj; simp [Addr.add]
    | 1, hj => simp at hj; subst hj; simp [Addr.add]
    | (j + 2), hj => simp at hj
  case d2 => intro u hu; simp at hu; rcases hu with rfl | rfl <;> rfl
  case d3 => unfold maxLen; omega
  case d4 => omega
  case d5 => simp; omega
  intro v2 w2 hown2 hgrow2 _
  have hbel2 : Below w.heap.size w w2 := (hbel1.alloc (by omega) _).grown hgrow2 (by simp; omega) (fun k hk => (hown1.lt k hk).1)
  obtain ⟨ao2, cap2, rfl⟩ := own_form hown2
  have hown3 : w2.ownsRowF w.heap.size 5 1 (.slice ao2 (p.size + 2) cap2) (p.data.toList ++ [35, 34]).length (Lib.byteCells (p.data.toList ++ [35, 34])) := by
    have e1 : (p.data.toList ++ [35, 34]).length = p.size + 2 := by simp
    rw [e1, Lib.byteCells_append, ← Lib.strCells_eq]
    exact hown2
  clear hown1 hbel1 hgrow2 hown2 hsz1
  have hru := runes_run s hs
  go_wp2_with fail
  have hS0 : MdSt w (w2.alloc (Obj.cells (rcOf s w2) 21)).drew (.slice ao2 (p.size + 2) cap2) (p.data.toList ++ [35, 34]) w2.heap.size (rcOf s w2) :=
    ⟨hown3.alloc _, (hbel2.alloc (by have := hbel2.size; omega) _).drew, heap_alloc_last w2 _⟩
  have hat := rcOf_at s w2
  generalize (w2.alloc (Obj.cells (rcOf s w2) 21)).drew = w3 at hS0 ⊢
  generalize w2.heap.size = g2 at hS0 ⊢
  generalize rcOf s w2 = RC at hS0 hat
  generalize capOf s w2 = rcap
  have hbd := rl_bd s s.size 0
  have hnl := rl_len s s.size 0
  have hW : (p.data.toList ++ [35, 34]) ++ mdl 0 (rl s s.size 0) ++ [34] = whole p s := by
    rw [mdl_esc]; simp [whole]
  have HW := hideIt hW
  clear hown3 hbel2 hru hW
  generalize rl s s.size 0 = R at hat hbd hnl HW ⊢
  obtain ⟨tot, htot⟩ : ∃ tot, (p.data.toList ++ [35, 34]) ++ mdl 0 R = tot := ⟨_, rfl⟩
  have Htot := hideIt htot
  clear htot
  go_loopg [5, 6, 8] R.length (fun g s5 s6 s8 wr => ∃ (i m : Nat) (acc : List UInt8) (ao : Option Addr) (cap : Nat), i + g = R.length ∧ s5 = .slice ao acc.length cap ∧ s6 = .int .i64 m ∧ s8 = .int .i64 i ∧ MdSt w wr (.slice ao acc.length cap) acc g2 RC ∧ acc ++ mdl m (R.drop i) = tot ∧ m ≤ i ∧ acc.length ≤ p.size + 2 + 5 * i)
  case atStart => 
    have e1 : (p.data.toList ++ [35, 34]).length = p.size + 2 := by simp
    exact ⟨0, 0, p.data.toList ++ [35, 34], ao2, cap2, by omega, by rw [e1], rfl, rfl, by rw [e1]; exact hS0, Htot.out, by omega, by omega⟩
  case round =>
    clear hS0
    obtain ⟨i, m, acc, ao, cap, hig, rfl, rfl, rfl, hS, hacc, hmi, hal⟩ := hrel
    have Hacc := hideIt hacc
    clear hacc
    by_cases hlt : i < R.length
    · have hcell : wr.cell? ⟨g2, i, none⟩ = some (.int .i32 (R[i] : Nat)) := by rw [Lib.cell_of_heap hS.rs]; exact hat i hlt
      have hr1 := hbd R[i] (List.getElem_mem hlt)
      have hst := Hacc.out
      rw [List.drop_eq_getElem_cons hlt] at hst
      generalize R[i] = r at hcell hr1 hst
      have Hst := hideIt hst
      clear hst Hacc
      obtain ⟨f, rfl⟩ : ∃ f, gk = f + 1 := ⟨gk - 1, by omega⟩
      have hl4 := enc_len (r : Int)
      by_cases h34 : r = 34
      · have hq : ((r : Int) == 34) = true := by simp [h34]
        have hb : ((r : Int) == 92) = false := by simp [h34]
        by_cases hev : m % 2 = 0
        · have he : ((m : Int) % 2 == 0) = true := by simp; omega
          have hst2 : (acc ++ [92] ++ Lib.encodeRune (r : Int)) ++ mdl 0 (R.drop (i + 1)) = tot := by
            rw [← Hst.out, mdl, if_pos ⟨h34, hev⟩]
            simp [h34]
          have Hst2 := hideIt hst2
          clear hst2 Hst h34
          go_wp2_with (at_builtin; refine wpList_append_ownF _ rfl (.tmp 43) (.tmp 44) 23 rfl w.heap.size 5 i0 (.int .u8 0) 1 1 Yba.underlying23 hi hz0 hz1 hz2 rfl (by decide) _ _ _ rfl (hS.own.alloc _) ⟨wr.heap.size, 0, none⟩ 1 1 [.int .u8 92] rfl rfl ?d1 ?d2 ?d3 ?d4 ?d5 ?_)
          case d1 =>
            intro j u hj
            match j, hj with
            | 0, hj => simp at hj; subst hj; simp [Addr.add]
            | (j + 1), hj => simp at hj
          case d2 => intro u hu; simp at hu; rcases hu with rfl; rfl
          case d3 => unfold maxLen; omega
          case d4 => omega
          case d5 => have := hS.bel.size; simp; omega
          intro v5 w5 hown5 hgrow5 _
          have hS5 := md_grow (more := [92]) (md_alloc hS _) hgrow5 hown5
          obtain ⟨ao5, cap5, rfl⟩ := own_form hown5
          clear hown5 hgrow5 hS
          go_wp2_with fail
          refine (Yba.utf8_AppendRune_row w.heap.size _ _ (Lib.byteCells (acc ++ [92])) (r : Int) (by omega) (by omega) _ hS5.own (by first | omega | (simp; omega)) (by have := hS5.bel.size; omega)).mono ?_
          rintro e W2 ⟨v', rfl, hown', o, hgrow⟩
          rw [enc_cells] at hown' 
          rw [Lib.byteCells_length] at hown'
          have hS4 := md_grow (md_alloc hS5 o) hgrow hown'
          obtain ⟨ao', cap', rfl⟩ := own_form hS4.own
          clear hown' hgrow hS5 hcell
          go_wp2
          go_roundg f
          case measure => go_light; omega
          case rel =>
            go_light
            exact ⟨i + 1, 0, _, ao', cap', by omega, by simp, rfl, rfl, hS4, Hst2.out, by omega, by simp; omega⟩
        · have he : ((m : Int) % 2 == 0) = false := by simp; omega
          have hst2 : (acc ++ Lib.encodeRune (r : Int)) ++ mdl 0 (R.drop (i + 1)) = tot := by
            rw [← Hst.out, mdl, if_neg (fun q => hev q.2)]
            simp [h34]
          have Hst2 := hideIt hst2
          clear hst2 Hst h34
          go_wp2_with fail
          refine (Yba.utf8_AppendRune_row w.heap.size _ _ (Lib.byteCells acc) (r : Int) (by omega) (by omega) _ hS.own (by first | omega | (simp; omega)) (by have := hS.bel.size; omega)).mono ?_
          rintro e W2 ⟨v', rfl, hown', o, hgrow⟩
          rw [enc_cells] at hown' 
          rw [Lib.byteCells_length] at hown'
          have hS4 := md_grow (md_alloc hS o) hgrow hown'
          obtain ⟨ao', cap', rfl⟩ := own_form hS4.own
          clear hown' hgrow hS hcell
          go_wp2
          go_roundg f
          case measure => go_light; omega
          case rel =>
            go_light
            exact ⟨i + 1, 0, _, ao', cap', by omega, by simp, rfl, rfl, hS4, Hst2.out, by omega, by simp; omega⟩
      · have hq : ((r : Int) == 34) = false := by simp; omega
        by_cases h92 : r = 92
        · have hb : ((r : Int) == 92) = true := by simp [h92]
          have hst2 : (acc ++ Lib.encodeRune (r : Int)) ++ mdl (m + 1) (R.drop (i + 1)) = tot := by
            rw [← Hst.out, mdl, if_neg (fun q => h34 q.1), if_pos h92]
            simp
          have Hst2 := hideIt hst2
          clear hst2 Hst h34 h92
          go_wp2_with fail
          refine (Yba.utf8_AppendRune_row w.heap.size _ _ (Lib.byteCells acc) (r : Int) (by omega) (by omega) _ hS.own (by first | omega | (simp; omega)) (by have := hS.bel.size; omega)).mono ?_
          rintro e W2 ⟨v', rfl, hown', o, hgrow⟩
          rw [enc_cells] at hown' 
          rw [Lib.byteCells_length] at hown'
          have hS4 := md_grow (md_alloc hS o) hgrow hown'
          obtain ⟨ao', cap', rfl⟩ := own_form hS4.own
          clear hown' hgrow hS hcell
          go_wp2
          go_roundg f
          case measure => go_light; omega
          case rel =>
            go_light
            exact ⟨i + 1, m + 1, _, ao', cap', by omega, by simp, rfl, rfl, hS4, Hst2.out, by omega, by simp; omega⟩
        · have hb : ((r : Int) == 92) = false := by simp; omega
          have hst2 : (acc ++ Lib.encodeRune (r : Int)) ++ mdl 0 (R.drop (i + 1)) = tot := by
            rw [← Hst.out, mdl, if_neg (fun q => h34 q.1), if_neg h92]
            simp
          have Hst2 := hideIt hst2
          clear hst2 Hst h34 h92
          go_wp2_with fail
          refine (Yba.utf8_AppendRune_row w.heap.size _ _ (Lib.byteCells acc) (r : Int) (by omega) (by omega) _ hS.own (by first | omega | (simp; omega)) (by have := hS.bel.size; omega)).mono ?_
          rintro e W2 ⟨v', rfl, hown', o, hgrow⟩
          rw [enc_cells] at hown' 
          rw [Lib.byteCells_length] at hown'
          have hS4 := md_grow (md_alloc hS o) hgrow hown'
          obtain ⟨ao', cap', rfl⟩ := own_form hS4.own
          clear hown' hgrow hS hcell
          go_wp2
          go_roundg f
          case measure => go_light; omega
          case rel =>
            go_light
            exact ⟨i + 1, 0, _, ao', cap', by omega, by simp, rfl, rfl, hS4, Hst2.out, by omega, by simp; omega⟩
    · have hfin : acc = tot := by
        rw [← Hacc.out, List.drop_eq_nil_of_le (by omega)]
        simp [mdl]
      have hF : acc ++ [34] = whole p s := by rw [hfin, ← HW.out, ← Htot.out]
      have HF := hideIt hF
      clear hfin hF Hacc
      go_wp2_with (at_builtin; refine wpList_append_ownF _ rfl (.tmp 53) (.tmp 54) 23 rfl w.heap.size 5 i0 (.int .u8 0) 1 1 Yba.underlying23 hi hz0 hz1 hz2 rfl (by decide) _ _ _ rfl (hS.own.alloc _) ⟨wr.heap.size, 0, none⟩ 1 1 [.int .u8 34] rfl rfl ?d1 ?d2 ?d3 ?d4 ?d5 ?_)
      case d1 =>
        intro j u hj
        match j, hj with
        | 0, hj => simp at hj; subst hj; simp [Addr.add]
        | (j + 1), hj => simp at hj
      case d2 => intro u hu; simp at hu; rcases hu with rfl; rfl
      case d3 => unfold maxLen; omega
      case d4 => omega
      case d5 => have := hS.bel.size; simp; omega
      intro v5 w5 hown5 hgrow5 _
      have hS5 := md_grow (more := [34]) (md_alloc hS _) hgrow5 hown5
      rw [HF.out] at hS5
      have hcv := back_run hS5.own
      have HB := hideIt hS5.bel
      obtain ⟨ao5, cap5, rfl⟩ := own_form hown5
      clear hown5 hgrow5 hS hS5
      go_wp2_with fail
      go_ret
      exact ⟨rfl, HB.out⟩

end Go.Proofs.Ybulkdqpk
