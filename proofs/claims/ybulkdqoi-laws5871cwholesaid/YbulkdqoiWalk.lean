import Derived.Test.YbulkdqoiPlain
import Derived.Deep.CutBlock
namespace Go.Proofs.Ybulkdqoi
open Go.RowKit

set_option maxHeartbeats 1000000 in
set_option maxRecDepth 1000000 in
theorem law_walk (w : World) (v sc last fr to_ : Int) (same : Bool) (lead from_ est hold : Int)
    (bv : -9223372036854775808 ≤ v ∧ v ≤ 9223372036854775807) (bsc : 0 ≤ sc ∧ sc ≤ 255) (bl : 0 ≤ last ∧ last ≤ 18446744073709551615) (bf : 0 ≤ fr ∧ fr ≤ 18446744073709551615) (bt : 0 ≤ to_ ∧ to_ ≤ 18446744073709551615)
    (be : -9223372036854775808 ≤ est ∧ est ≤ 9223372036854775807) :
    Calls Yba.prog 3 #[.int .i64 v, .int .u8 sc, .int .u64 last, .int .u64 fr, .int .u64 to_, .bool same, .agg #[.int .i64 lead, .int .i64 from_, .int .i64 est, .int .i64 hold]] w fun e w' => e = .returned (.bool true) ∧ Below w.heap.size w w' := by
  go_enter Yba.func3, Yba.ntmps3
  go_upto_block 0 with fail
  obtain ⟨W, hW⟩ : ∃ W, W = w.alloc (Obj.cells #[Value.int IntKind.i64 lead, Value.int IntKind.i64 from_, Value.int IntKind.i64 est, Value.int IntKind.i64 hold] 24) := ⟨_, rfl⟩
  have hB : Below w.heap.size w W := by rw [hW]; exact (Below.refl _ _).alloc (Nat.le_refl _) _
  have hsz : W.heap.size = w.heap.size + 1 := by rw [hW]; simp
  have c0 : W.cell? ⟨w.heap.size, 0, none⟩ = some (.int .i64 lead) := by rw [hW]; simp
  have c1 : W.cell? ⟨w.heap.size, 1, none⟩ = some (.int .i64 from_) := by rw [hW]; simp
  have c2 : W.cell? ⟨w.heap.size, 2, none⟩ = some (.int .i64 est) := by rw [hW]; simp
  have c3 : W.cell? ⟨w.heap.size, 3, none⟩ = some (.int .i64 hold) := by rw [hW]; simp
  rw [← hW]
  clear hW
  go_cut [0] (fun s0 wx => ∃ v' : Int, s0 = .int .i64 v' ∧ (-9223372036854775808 ≤ v' ∧ v' ≤ 9223372036854775807) ∧ W = wx)
  case first =>
    go_wp2_with fail
    all_goals
      go_meet
      go_light
      refine ⟨_, rfl, ?_, rfl⟩
      first
        | exact wrap64_bd _
        | exact bv
        | omega
  case rest =>
    obtain ⟨v', rfl, bv', rfl⟩ := hcut
    clear bv bsc
    go_upto_if 36 with fail
    go_cut [4] (fun s4 wx => ∃ t' : Int, s4 = .int .u64 t' ∧ (0 ≤ t' ∧ t' ≤ 18446744073709551615) ∧ W = wx)
    case first =>
      cases same
      · go_wp2_with fail
        go_meet
        go_light
        exact ⟨_, rfl, bt, rfl⟩
      · go_wp2_with fail
        go_meet
        go_light
        exact ⟨_, rfl, bl, rfl⟩
    case rest =>
      obtain ⟨to', rfl, bt', rfl⟩ := hcut
      clear bt
      go_upto_if 39 with fail
      go_cut [15] (fun s15 wx => s15 = .int .u64 (tickOf v' lead from_ est hold) ∧ Below W.heap.size W wx)
      case first =>
        by_cases hv : v' = -9223372036854775808
        · have hvb : (v' != -9223372036854775808) = false := by simp [hv]
          have e0 := hideIt (show tickOf v' lead from_ est hold = 0 by rw [tickOf, if_pos hv])
          clear hv
          go_wp2_with fail
          go_meet
          go_light
          exact ⟨by rw [e0.out], Below.refl _ _⟩
        · have hvb : (v' != -9223372036854775808) = true := by simp [hv]
          have e0 := hideIt (show tickOf v' lead from_ est hold = IntKind.u64.wrap (phys (tk v') (skew lead from_ est hold (tk v'))) / 65536 * 65536 by
            have hb := u64wrap_bd (phys (tk v') (skew lead from_ est hold (tk v')))
            rw [tickOf, if_neg hv, andNot_tick _ hb.1 hb.2])
          clear hv
          go_upto_if 42 with fail
          go_cut [16] (fun s16 wx => s16 = .int .i64 (max v' 0) ∧ W = wx)
          case first =>
            by_cases h0 : v' < 0
            · go_wp2_with fail
              go_meet
              go_light
              exact ⟨by rw [show max v' 0 = 0 by omega], rfl⟩
            · have h0' : 0 ≤ v' := by omega
              clear h0
              go_wp2_with fail
              go_meet
              go_light
              exact ⟨by rw [show max v' 0 = v' by omega], rfl⟩
          case rest =>
            obtain ⟨rfl, rfl⟩ := hcut
            have etk := tk_max v'
            have hmx : 0 ≤ max v' 0 ∧ max v' 0 ≤ 9223372036854775807 := by omega
            have hb := tk_bd v'
            generalize max v' 0 = mx at etk hmx ⊢
            have Hetk := hideIt etk
            clear etk
            go_upto_if 44 with fail
            go_cut [16] (fun s16 wx => s16 = .int .i64 (tk v') ∧ W = wx)
            case first =>
              by_cases h1 : 8835955200000000000 < mx
              · have ee := hideIt (show tk v' = 8835955200000000000 by rw [Hetk.out, if_pos h1])
                go_wp2_with fail
                go_meet
                go_light
                exact ⟨by rw [ee.out], rfl⟩
              · have ee := hideIt (show tk v' = mx by rw [Hetk.out, if_neg h1])
                have h1' : mx ≤ 8835955200000000000 := by omega
                clear h1
                go_wp2_with fail
                go_meet
                go_light
                exact ⟨by rw [ee.out], rfl⟩
            case rest =>
              obtain ⟨rfl, rfl⟩ := hcut
              clear Hetk hmx
              generalize tk v' = r at hb e0 ⊢
              go_wp2_with fail
              refine (zz_walk W lead from_ est hold r).mono ?_
              rintro e w1 ⟨rfl, hB1⟩
              have hs := skew_bd lead from_ est hold r be
              generalize skew lead from_ est hold r = s at hs e0 ⊢
              go_upto_if 51 with fail
              go_cut [18] (fun s18 wx => s18 = .int .i64 (phys r s) ∧ w1 = wx)
              case first =>
                by_cases h1 : 8835955200000000000 - r ≤ s
                · have ee := hideIt (show phys r s = 8835955200000000000 by rw [phys, if_pos h1])
                  go_wp2_with fail
                  go_meet
                  go_light
                  exact ⟨by rw [ee.out], rfl⟩
                · have ee := hideIt (show phys r s = r + s by rw [phys, if_neg h1])
                  have h1' : s < 8835955200000000000 - r := by omega
                  clear h1
                  go_wp2_with fail
                  go_meet
                  go_light
                  exact ⟨by rw [ee.out], rfl⟩
              case rest =>
                obtain ⟨rfl, rfl⟩ := hcut
                have hub := u64wrap_bd (phys r s)
                generalize phys r s = p at hub e0 ⊢
                go_wp2_with fail
                go_meet
                go_light
                exact ⟨by rw [e0.out], hB1⟩
      case rest =>
        obtain ⟨rfl, hBx⟩ := hcut
        have htb := tick_bd v' lead from_ est hold
        obtain ⟨t, ht⟩ : ∃ t, tickOf v' lead from_ est hold = t := ⟨_, rfl⟩
        rw [ht] at htb ⊢
        have Ht := hideIt ht
        clear ht
        go_upto_if 62 with fail
        go_cut [19] (fun s19 wx => s19 = .int .u64 (fromOf last fr to') ∧ wc = wx)
        case first =>
          by_cases hl : last = to'
          · have hlb : (last == to') = true := by simp [hl]
            have ee := hideIt (show fromOf last fr to' = fr by rw [fromOf, if_pos hl])
            clear hl
            go_wp2_with fail
            go_meet
            go_light
            exact ⟨by rw [ee.out], rfl⟩
          · have hlb : (last == to') = false := by simp [hl]
            have ee := hideIt (show fromOf last fr to' = last by rw [fromOf, if_neg hl])
            clear hl
            go_wp2_with fail
            go_meet
            go_light
            exact ⟨by rw [ee.out], rfl⟩
        case rest =>
          obtain ⟨rfl, rfl⟩ := hcut
          have hFb := from_bd (to_ := to') bl bf
          obtain ⟨F, hF⟩ : ∃ F, fromOf last fr to' = F := ⟨_, rfl⟩
          rw [hF] at hFb ⊢
          have HF := hideIt hF
          clear hF
          go_upto_region 27 with fail
          go_cut [76] (fun s76 wx => s76 = .bool (upB F t) ∧ wc = wx)
          case first =>
            by_cases h0 : 0 < t
            · have h1t : 1 ≤ t := by omega
              by_cases hm : F = 18446744073709551615
              · have hmb : (F == 18446744073709551615) = true := by simp [hm]
                have ee := hideIt (show upB F t = true by simp [upB, h0, hmb])
                clear hm
                go_wp2_with fail
                go_meet
                go_light
                exact ⟨by rw [ee.out], rfl⟩
              · have hmb : (F == 18446744073709551615) = false := by simp [hm]
                by_cases hlt : F < t - 1
                · have ee := hideIt (show upB F t = true by simp [upB, h0, hmb, hlt])
                  clear hm
                  go_wp2_with fail
                  go_meet
                  go_light
                  exact ⟨by rw [ee.out], rfl⟩
                · have ee := hideIt (show upB F t = false by simp [upB, h0, hmb, hlt])
                  have hld : decide (F < t - 1) = false := by simp [hlt]
                  clear hm hlt
                  go_wp2_with fail
                  go_meet
                  go_light
                  exact ⟨by rw [ee.out], rfl⟩
            · have ee := hideIt (show upB F t = false by simp [upB, h0])
              have h0d : decide (0 < t) = false := by simp [h0]
              go_wp2_with fail
              go_meet
              go_light
              exact ⟨by rw [ee.out], rfl⟩
          case rest =>
            obtain ⟨rfl, rfl⟩ := hcut
            have eT := toOf_up F t hFb htb
            have hup1 : upB F t = true → 1 ≤ t := fun h => by
              simp only [upB, Bool.and_eq_true, decide_eq_true_eq] at h
              omega
            generalize upB F t = up at eT hup1 ⊢
            have HeT := hideIt eT
            clear eT
            go_upto_if 76 with fail
            go_cut [20] (fun s20 wx => s20 = .int .u64 (toOf F t) ∧ wc = wx)
            case first =>
              cases up
              · have ee := hideIt (show toOf F t = F by rw [HeT.out]; rfl)
                clear hup1
                go_wp2_with fail
                go_meet
                go_light
                exact ⟨by rw [ee.out], rfl⟩
              · have ee := hideIt (show toOf F t = t - 1 by rw [HeT.out]; rfl)
                have h1t := hup1 rfl
                clear hup1
                go_wp2_with fail
                go_meet
                go_light
                exact ⟨by rw [ee.out], rfl⟩
            case rest =>
              obtain ⟨rfl, rfl⟩ := hcut
              clear HeT hup1
              obtain ⟨T, hT⟩ : ∃ T, toOf F t = T := ⟨_, rfl⟩
              rw [hT]
              have HT := hideIt hT
              clear hT
              obtain ⟨Z, hz, hz42, hZ, z1, z2, z3⟩ := zero42
              have hN0 : w.heap.size < W.heap.size := by omega
              have hN : w.heap.size < wc.heap.size := by have := hBx.size; omega
              have d0 : ∀ o, (wc.alloc o).cell? ⟨w.heap.size, 0, none⟩ = some (.int .i64 lead) := fun o => by rw [World.cell?_alloc_lt _ _ _ hN, hBx.cell (p := ⟨w.heap.size, 0, none⟩) hN0]; exact c0
              have d1 : ∀ o, (wc.alloc o).cell? ⟨w.heap.size, 1, none⟩ = some (.int .i64 from_) := fun o => by rw [World.cell?_alloc_lt _ _ _ hN, hBx.cell (p := ⟨w.heap.size, 1, none⟩) hN0]; exact c1
              have d2 : ∀ o, (wc.alloc o).cell? ⟨w.heap.size, 2, none⟩ = some (.int .i64 est) := fun o => by rw [World.cell?_alloc_lt _ _ _ hN, hBx.cell (p := ⟨w.heap.size, 2, none⟩) hN0]; exact c2
              have d3 : ∀ o, (wc.alloc o).cell? ⟨w.heap.size, 3, none⟩ = some (.int .i64 hold) := fun o => by rw [World.cell?_alloc_lt _ _ _ hN, hBx.cell (p := ⟨w.heap.size, 3, none⟩) hN0]; exact c3
              clear c0 c1 c2 c3
              go_wp2_with fail
              obtain ⟨W4, hW4⟩ : ∃ W4, W4 = (wc.alloc (Obj.cells (((Z.setIfInBounds 121 (Value.int IntKind.u64 last)).setIfInBounds 248 (Value.int IntKind.u64 fr)).setIfInBounds 249 (Value.int IntKind.u64 to')) 42)).alloc (Obj.cells #[Value.int IntKind.i64 lead, Value.int IntKind.i64 from_, Value.int IntKind.i64 est, Value.int IntKind.i64 hold] 44) := ⟨_, rfl⟩
              rw [← hW4]
              have hM := mem4 wc w.heap.size Z hZ last fr to' lead from_ est hold hN d0 d1 d2 d3
              rw [← hW4] at hM
              clear hW4 d0 d1 d2 d3 hz hz42 z1 z2 z3
              refine (catch_walk W4 wc.heap.size (wc.heap.size + 1) v' lead from_ est hold last fr to' t F T hM.e0 hM.e1 hM.e2 hM.e3 hM.k0 hM.k1 hM.k2 hM.f0 hM.f1 hM.f2 (skew_bd _ _ _ _ _ be) Ht.out htb HF.out HT.out).mono ?_
              rintro e w5 ⟨rfl, hD⟩
              have q0 := hD.k0
              have q1 := hD.k1
              have q2 := hD.k2
              have x0 := hD.far (o := 0) hM.s0 (by omega)
              have x1 := hD.far (o := 1) hM.s1 (by omega)
              have x2 := hD.far (o := 2) hM.s2 (by omega)
              have x3 := hD.far (o := 3) hM.s3 (by omega)
              have y0 := hD.far (o := 0) hM.e0 (by omega)
              have y1 := hD.far (o := 1) hM.e1 (by omega)
              have y2 := hD.far (o := 2) hM.e2 (by omega)
              have y3 := hD.far (o := 3) hM.e3 (by omega)
              have HBf : Hid (Below w.heap.size w w5) := hideIt (hB.trans ((hBx.mono (by omega)).trans ((hM.bel.mono (by omega)).trans (hD.below (by omega)))))
              clear hM hD
              go_wp2_with fail
              go_quiet (fail)
              go_wp2
              go_ret
              exact ⟨rfl, below_drewN HBf.out _⟩

end Go.Proofs.Ybulkdqoi
