import Derived.Test.YbulkdqoiFns
namespace Go.Proofs.Ybulkdqoi
open Go.RowKit

/-- The tick of the reading v. -/
def tickOf (v lead from_ est hold : Int) : Int :=
  if v = -9223372036854775808 then 0 else bits BinOp.andNot IntKind.u64 (IntKind.u64.wrap (phys (tk v) (skew lead from_ est hold (tk v)))) 65535

/-- What catchUp leaves: its three fields; nothing else has turned. -/
structure Done (w w' : World) (bc : Nat) (F T : Int) : Prop where
  k0 : w'.cell? ⟨bc, 121, none⟩ = some (.int .u64 T)
  k1 : w'.cell? ⟨bc, 248, none⟩ = some (.int .u64 F)
  k2 : w'.cell? ⟨bc, 249, none⟩ = some (.int .u64 T)
  os : w'.os = w.os
  tape : w'.tape = w.tape
  output : w'.output = w.output
  size : w'.heap.size = w.heap.size
  other : ∀ k, k ≠ bc → w'.heap[k]? = w.heap[k]?

theorem heap_setCell_other (w : World) (a : Addr) (v : Value) (k : Nat) (h : k ≠ a.block) : (w.setCell a v).heap[k]? = w.heap[k]? := by
  simp only [World.setCell, Array.getElem?_modify]
  rw [if_neg (by omega)]

theorem cell_set_same {w : World} {a : Addr} {u : Value} (h : w.cell? a = some u) (v : Value) : (w.setCell a v).cell? a = some v := World.cell?_setCell_same _ _ _ h
theorem cell_set_far {w : World} {b o o' : Nat} {u : Value} (h : w.cell? ⟨b, o, none⟩ = some u) (hne : o ≠ o') (v : Value) : (w.setCell ⟨b, o', none⟩ v).cell? ⟨b, o, none⟩ = some u := by
  rw [World.cell?_setCell_other _ _ _ _ (fun e => by have := congrArg Addr.off e; exact hne this.symm)]
  exact h

theorem done_two {w : World} {bc : Nat} {F T : Int} {x y : Value} (k0 : w.cell? ⟨bc, 121, none⟩ = some (.int .u64 T)) (k1 : w.cell? ⟨bc, 248, none⟩ = some x) (k2 : w.cell? ⟨bc, 249, none⟩ = some y) :
    Done w ((w.setCell ⟨bc, 248, none⟩ (.int .u64 F)).setCell ⟨bc, 249, none⟩ (.int .u64 T)) bc F T :=
  ⟨cell_set_far (cell_set_far k0 (by omega) _) (by omega) _, cell_set_far (cell_set_same k1 _) (by omega) _, cell_set_same (cell_set_far k2 (by omega) _) _, rfl, rfl, rfl, by simp,
    fun k hk => by rw [heap_setCell_other _ _ _ _ hk, heap_setCell_other _ _ _ _ hk]⟩

theorem done_three {w : World} {bc : Nat} {F T : Int} {x y z : Value} (k0 : w.cell? ⟨bc, 121, none⟩ = some z) (k1 : w.cell? ⟨bc, 248, none⟩ = some x) (k2 : w.cell? ⟨bc, 249, none⟩ = some y) :
    Done w (((w.setCell ⟨bc, 121, none⟩ (.int .u64 T)).setCell ⟨bc, 248, none⟩ (.int .u64 F)).setCell ⟨bc, 249, none⟩ (.int .u64 T)) bc F T :=
  ⟨cell_set_far (cell_set_far (cell_set_same k0 _) (by omega) _) (by omega) _, cell_set_far (cell_set_same (cell_set_far k1 (by omega) _) _) (by omega) _, cell_set_same (cell_set_far (cell_set_far k2 (by omega) _) (by omega) _) _, rfl, rfl, rfl, by simp,
    fun k hk => by rw [heap_setCell_other _ _ _ _ hk, heap_setCell_other _ _ _ _ hk, heap_setCell_other _ _ _ _ hk]⟩

/-- What catchUp counts on from. -/
def fromOf (last fr to_ : Int) : Int := if last = to_ then fr else last
/-- What catchUp sets last to. -/
def toOf (F t : Int) : Int := if IntKind.u64.wrap (F + 1) < t then t - 1 else F

theorem u64wrap_bd (x : Int) : 0 ≤ IntKind.u64.wrap x ∧ IntKind.u64.wrap x ≤ 18446744073709551615 := by
  rw [IntKind.wrap_u64]; omega

set_option maxHeartbeats 1000000 in
set_option maxRecDepth 1000000 in
theorem catch_walk (w : World) (bc be : Nat) (v lead from_ est hold last fr to_ t F T : Int)
    (c0 : w.cell? ⟨be, 0, none⟩ = some (.int .i64 lead)) (c1 : w.cell? ⟨be, 1, none⟩ = some (.int .i64 from_)) (c2 : w.cell? ⟨be, 2, none⟩ = some (.int .i64 est)) (c3 : w.cell? ⟨be, 3, none⟩ = some (.int .i64 hold))
    (k0 : w.cell? ⟨bc, 121, none⟩ = some (.int .u64 last)) (k1 : w.cell? ⟨bc, 248, none⟩ = some (.int .u64 fr)) (k2 : w.cell? ⟨bc, 249, none⟩ = some (.int .u64 to_))
    (f0 : w.frozen? ⟨bc, 121, none⟩ = false) (f1 : w.frozen? ⟨bc, 248, none⟩ = false) (f2 : w.frozen? ⟨bc, 249, none⟩ = false)
    (hs : -9223372036854775808 ≤ skew lead from_ est hold (tk v) ∧ skew lead from_ est hold (tk v) ≤ 9223372036854775807)
    (ht : tickOf v lead from_ est hold = t) (htb : 0 ≤ t ∧ t ≤ 18446744073709551615)
    (hF : fromOf last fr to_ = F) (hT : toOf F t = T) :
    Calls Yba.prog 5 #[.pointer (some ⟨bc, 0, none⟩), .int .i64 v, .pointer (some ⟨be, 0, none⟩)] w fun e w' => e = .returned (.tuple #[]) ∧ Done w w' bc F T := by
  have hb := tk_bd v
  have hld := run_call_load (P := Yba.prog) Yba.func9 (by kernel_rfl) (by kernel_rfl) (by kernel_rfl) .u64 (by kernel_rfl) k0
  have hcas := run_call_cas_hit (P := Yba.prog) Yba.func10 (by kernel_rfl) (by kernel_rfl) (by kernel_rfl) .u64 (by kernel_rfl) (y := T) k0 f0
  have Ht := hideIt ht
  have HF := hideIt hF
  have HT := hideIt hT
  clear ht hF hT
  have Hcas := hideIt hcas
  clear hcas
  have Hld := hideIt hld
  clear hld
  go_enter Yba.func5, Yba.ntmps5
  go_upto_if 12 with fail
  go_cut [6] (fun s6 wx => s6 = .int .u64 t ∧ w = wx)
  case first =>
    by_cases hv : v = -9223372036854775808
    · have hvb : (v != -9223372036854775808) = false := by simp [hv]
      have e0 : t = 0 := by rw [← Ht.out, tickOf, if_pos hv]
      clear hv
      go_wp2_with fail
      go_meet
      go_light
      exact ⟨by rw [e0], rfl⟩
    · have hvb : (v != -9223372036854775808) = true := by simp [hv]
      have e0 := Ht.out
      rw [tickOf, if_neg hv] at e0
      clear hv
      have He := hideIt e0
      clear e0
      go_wp2_with fail
      refine (taken_walk w v).mono ?_
      rintro e w' ⟨rfl, hw⟩
      rw [hw]
      clear hw
      go_wp2_with fail
      refine (at_walk w be lead from_ est hold (tk v) c0 c1 c2 c3).mono ?_
      rintro e w'' ⟨rfl, hw⟩
      rw [hw]
      clear hw
      go_wp2_with fail
      refine (with_walk w (tk v) _ hb.1 hb.2 hs.1 hs.2).mono ?_
      rintro e w3 ⟨rfl, hw⟩
      rw [hw]
      clear hw
      go_wp2_with fail
      go_meet
      go_light
      exact ⟨by rw [He.out], rfl⟩
  case rest =>
    obtain ⟨rfl, rfl⟩ := hcut
    clear c0 c1 c2 c3 hs hb
    have hld := Hld.out
    go_wp2_with fail
    go_loopg [] 0 (fun _ wr => w = wr)
    case atStart => rfl
    case round =>
      obtain rfl := hrel
      have nb := u64wrap_bd (F + 1)
      obtain ⟨n1, hn1⟩ : ∃ n1, IntKind.u64.wrap (F + 1) = n1 := ⟨_, rfl⟩
      rw [hn1] at nb
      by_cases hl : last = to_
      · have hlb : (last == to_) = true := by simp [hl]
        have eF : fr = F := by rw [← HF.out, fromOf, if_pos hl]
        subst eF
        clear hl
        by_cases hlt : n1 < t
        · have eT : t - 1 = T := by rw [← HT.out, toOf, hn1, if_pos hlt]
          subst eT
          have htp : 1 ≤ t := by omega
          by_cases hTl : (t - 1) = last
          · have hTb : ((t - 1) == last) = true := by simp [hTl]
            have k0' : w.cell? ⟨bc, 121, none⟩ = some (.int .u64 ((t - 1))) := by rw [hTl]; exact k0
            have HD := hideIt (done_two (F := fr) k0' k1 k2)
            clear hTl k0'
            go_wp2
            exact bodyPost_ret (results_none rfl _ _ _) rfl ⟨rfl, HD.out⟩
          · have hTb : ((t - 1) == last) = false := by simp [hTl]
            have hcas := Hcas.out
            have HD := hideIt (done_three (F := fr) (T := (t - 1)) k0 k1 k2)
            clear hTl
            go_wp2
            exact bodyPost_ret (results_none rfl _ _ _) rfl ⟨rfl, HD.out⟩
        · have eT : fr = T := by rw [← HT.out, toOf, hn1, if_neg hlt]
          subst eT
          have hlt' : t ≤ n1 := by omega
          clear hlt
          by_cases hTl : fr = last
          · have hTb : (fr == last) = true := by simp [hTl]
            have k0' : w.cell? ⟨bc, 121, none⟩ = some (.int .u64 (fr)) := by rw [hTl]; exact k0
            have HD := hideIt (done_two (F := fr) k0' k1 k2)
            clear hTl k0'
            go_wp2
            exact bodyPost_ret (results_none rfl _ _ _) rfl ⟨rfl, HD.out⟩
          · have hTb : (fr == last) = false := by simp [hTl]
            have hcas := Hcas.out
            have HD := hideIt (done_three (F := fr) (T := fr) k0 k1 k2)
            clear hTl
            go_wp2
            exact bodyPost_ret (results_none rfl _ _ _) rfl ⟨rfl, HD.out⟩
      · have hlb : (last == to_) = false := by simp [hl]
        have eF : last = F := by rw [← HF.out, fromOf, if_neg hl]
        subst eF
        clear hl
        by_cases hlt : n1 < t
        · have eT : t - 1 = T := by rw [← HT.out, toOf, hn1, if_pos hlt]
          subst eT
          have htp : 1 ≤ t := by omega
          by_cases hTl : (t - 1) = last
          · have hTb : ((t - 1) == last) = true := by simp [hTl]
            have k0' : w.cell? ⟨bc, 121, none⟩ = some (.int .u64 ((t - 1))) := by rw [hTl]; exact k0
            have HD := hideIt (done_two (F := last) k0' k1 k2)
            clear hTl k0'
            go_wp2
            exact bodyPost_ret (results_none rfl _ _ _) rfl ⟨rfl, HD.out⟩
          · have hTb : ((t - 1) == last) = false := by simp [hTl]
            have hcas := Hcas.out
            have HD := hideIt (done_three (F := last) (T := (t - 1)) k0 k1 k2)
            clear hTl
            go_wp2
            exact bodyPost_ret (results_none rfl _ _ _) rfl ⟨rfl, HD.out⟩
        · have eT : last = T := by rw [← HT.out, toOf, hn1, if_neg hlt]
          subst eT
          have hlt' : t ≤ n1 := by omega
          clear hlt
          have HD := hideIt (done_two (F := last) k0 k1 k2)
          go_wp2
          exact bodyPost_ret (results_none rfl _ _ _) rfl ⟨rfl, HD.out⟩

end Go.Proofs.Ybulkdqoi
