/-
  The walk of 'LawS1711CLeaveMany' (7): ports and leaves. Typed by hand.
-/
import Derived.Test.YbulkaikiManyLemmas
namespace Go.Proofs.Ybulkaiki.Net
open Go.ChangeShapes Go.WideShapes Go.ChangeAt Go.RowKit
set_option linter.unusedVariables false

set_option maxRecDepth 100000 in
set_option maxHeartbeats 8000000 in
theorem many_ss (b off len cap : Nat) (b' off' len' cap' : Nat) (z y : Nat → Int) (w : World) (hrow : Row w (some ⟨b, off, none⟩) len z) (hl : len ≤ 1024) (hl' : len' ≤ 1024) (hc : ∀ j, j < len → w.cell? ⟨b, off + j, none⟩ = some (.int .u16 (z j))) (hb : b < w.heap.size) (hpos : 0 < len) (hc' : ∀ j, j < len' → w.cell? ⟨b', off' + j, none⟩ = some (.int .u16 (y j))) (hb' : b' < w.heap.size) (hy : ∀ j, 0 ≤ y j ∧ y j ≤ 65535) :
    Calls Yba.prog 7 #[.slice (some ⟨b, off, none⟩) len cap, .slice (some ⟨b', off', none⟩) len' cap'] w fun e w' => e = .returned (.bool true) ∧ Below w.heap.size w w' := by
  have HC := hide hc
  clear hc
  have hl0 : decide ((1024 : Int) < (len : Int)) = false := by simp; omega
  have hp1 : decide ((0 : Int) < (len : Int)) = true := by simp; omega
  have HC' := hide hc'
  have HY := hide hy
  clear hc' hy
  have hl1 : decide ((1024 : Int) < (len' : Int)) = false := by simp; omega
  have HROW := hide hrow
  clear hrow
  obtain ⟨i0, hi, hz0, hz1, hz2⟩ := info_parts info34
  go_enter Yba.func7, Yba.ntmps7
  go_wp2_with (at_make; refine wpList_make_own _ rfl _ _ 33 rfl w.heap.size 34 i0 (.int .u16 0) 1 Yba.underlying33 hi hz0 hz1 _ _ _ len' rfl rfl rfl (by rw [hz2]; omega) (by unfold maxLen; omega) (by simp) ?_)
  intro w1 ho hg
  have HO := hide ho
  have HB1 := hide ((Below.refl w.heap.size w).grown hg (Nat.le_refl _) (by simp))
  clear ho hg
  go_wp2_with fail
  go_loopw [5, 31] (fun o i wr => ∃ (k : Nat), k ≤ len' ∧ i = .int .i64 k ∧ o = .slice (some ⟨w.heap.size, 0, none⟩) k len' ∧ wr.ownsRow w.heap.size 34 1 (.slice (some ⟨w.heap.size, 0, none⟩) k len') k (qrow (pickOf z len y) k) ∧ Below w.heap.size w wr) (fun _ i _ => len' - (intOf i).toNat)
  case atStart => exact ⟨0, Nat.zero_le _, rfl, rfl, unhide HO, unhide HB1⟩
  case round =>
    obtain ⟨k, hk, rfl, rfl, hown, hbel⟩ := hrel
    have HO2 := hide hown
    have HB2 := hide hbel
    clear hown hbel HO HB1
    by_cases hlt : k < len'
    · have hck : wr.cell? ⟨b', off' + k, none⟩ = some (.int .u16 (y k)) := by
        rw [(unhide HB2).cell (p := ⟨b', off' + k, none⟩) hb']; exact unhide HC' k hlt
      obtain ⟨y0, y1⟩ := unhide HY k
      have hlq := (unhide HB2).size
      have hm0 : 0 ≤ y k % (len : Int) := Int.emod_nonneg _ (by omega)
      have hm1 : y k % (len : Int) < len := Int.emod_lt_of_pos _ (by omega)
      by_cases hev : y k % 2 = 0
      · have hcp : wr.cell? ⟨b, off + (y k % (len : Int)).toNat, none⟩ = some (.int .u16 (z (y k % (len : Int)).toNat)) := by
          rw [(unhide HB2).cell (p := ⟨b, off + (y k % (len : Int)).toNat, none⟩) hb]; exact unhide HC _ (by omega)
        have hb1 : (y k % 2 == 0) = true := by simp [hev]
        have HP := hide (pick_list (z := z) hev (show 0 < len by omega))
        clear hev
        go_wp2_with (at_builtin; go_must (refine wpList_append_fits _ rfl _ _ 33 rfl w.heap.size 34 i0 1 Yba.underlying33 hi hz1 w.heap.size k _ _ rfl ((unhide HO2).alloc _) ⟨wr.heap.size, 0, none⟩ 1 1 [.int .u16 (z (y k % (len : Int)).toNat)] rfl rfl (cell_one_new _ _ _) (one_u16 _) (by omega) ?_))
        intro w2 ho2 hg2
        have HO3 := hide ho2
        have HB3 := hide (((unhide HB2).alloc hlq _).grown hg2 (by simp; omega) (fun k hk => by cases hk; exact Nat.le_refl _))
        clear ho2 hg2
        go_wp2_with fail
        go_roundw
        case rel => exact ⟨k + 1, by omega, by go_num, rfl, by have := unhide HO3; rw [← unhide HP, qrow_step] at this; exact this, unhide HB3⟩
        case measure => simp [intOf]; omega
      · have hb1 : (y k % 2 == 0) = false := by simp [hev]
        have HP := hide (pick_odd (z := z) (len := len) hev)
        clear hev
        go_wp2_with (at_builtin; go_must (refine wpList_append_fits _ rfl _ _ 33 rfl w.heap.size 34 i0 1 Yba.underlying33 hi hz1 w.heap.size k _ _ rfl ((unhide HO2).alloc _) ⟨wr.heap.size, 0, none⟩ 1 1 [.int .u16 (y k)] rfl rfl (cell_one_new _ _ _) (one_u16 _) (by omega) ?_))
        intro w2 ho2 hg2
        have HO3 := hide ho2
        have HB3 := hide (((unhide HB2).alloc hlq _).grown hg2 (by simp; omega) (fun k hk => by cases hk; exact Nat.le_refl _))
        clear ho2 hg2
        go_wp2_with fail
        go_roundw
        case rel => exact ⟨k + 1, by omega, by go_num, rfl, by have := unhide HO3; rw [← unhide HP, qrow_step] at this; exact this, unhide HB3⟩
        case measure => simp [intOf]; omega
    · have hkl : len' = k := by omega
      subst hkl
      obtain ⟨wo, rfl⟩ : ∃ wo : World, wo = wr := ⟨_, rfl⟩
      generalize pickOf z len y = Y at HO2
      have HQ := hide (qrow_cell (unhide HO2))
      have HQL := hide ((unhide HO2).lt w.heap.size rfl).2
      have HRQ : Hid (Row wo (some ⟨w.heap.size, 0, none⟩) len' Y) := Or.inr ⟨_, 0, rfl, unhide HQ⟩
      have HRP := hide ((unhide HROW).below (unhide HB2))
      clear HO2 HROW
      go_wp2_with fail
      refine (build_any _ _ _ z _ hl (unhide HRP)).mono ?_
      rintro e w3 ⟨rfl, hb3, sv, ads, n, hcnt, hnle, hnet⟩
      have N3 := NetS.start hnet hcnt
      obtain ⟨sa, sc, rfl, hsa⟩ := N3.slice
      have HS := hide hsa
      have HK3 : Hid (Keep wo len (.slice sa len sc) ads z (mem Y 0) n w3) := Keep.mk hb3 (by rw [← mem_zero]; exact N3)
      clear hnet hcnt hsa N3 hb3
      go_wp2_with fail
      go_loopw [64] (fun i wr => ∃ (k m : Nat), k ≤ len' ∧ i = .int .i64 k ∧ Keep wo len (.slice sa len sc) ads z (mem Y k) m wr) (fun i _ => len' - (intOf i).toNat)
      case atStart => exact ⟨0, n, Nat.zero_le _, rfl, unhide HK3⟩
      case round =>
        obtain ⟨k, m, hk, rfl, hkeep⟩ := hrel
        have HK := hide hkeep
        clear hkeep HK3
        by_cases hlt : k < len'
        · have hcq : wr.cell? ⟨w.heap.size, k, none⟩ = some (.int .u16 (Y k)) := by
            rw [(unhide HK).below.cell (p := ⟨w.heap.size, k, none⟩) (unhide HQL)]
            have := unhide HQ k hlt
            rwa [Nat.zero_add] at this
          go_wp2_with fail
          refine (addr_any _ _).mono ?_
          rintro e w4 ⟨rfl, hb4⟩
          have HK4 := hide ((unhide HK).after hb4)
          clear hb4 hcq
          go_wp2_with fail
          refine (leave_any w4 wo.heap.size len _ ads z (mem Y k) m (Y k) (unhide HK4).net hl).mono ?_
          rintro e w5 ⟨rfl, hb5, m5, N5, _, _⟩
          rw [plus_mem] at N5
          have HK5 := hide (Keep.mk ((unhide HK4).below.trans hb5) N5)
          clear N5 hb5 HK4
          go_wp2_with fail
          go_roundw
          case rel => exact ⟨k + 1, m5, by omega, by go_num, unhide HK5⟩
          case measure => simp [intOf]; omega
        · have hkl : k = len' := by omega
          have HK4 : Hid (Keep wo len (.slice sa len sc) ads z (mem Y len') m wr) := by have := unhide HK; rw [hkl] at this; exact this
          clear HK hkl
          have c1 := (unhide HK4).net.net.c1
          go_wp2_with fail
          clear c1
          go_loopw [83] (fun i wr => ∃ (k : Nat), k ≤ len ∧ i = .int .i64 k ∧ Keep wo len (.slice sa len sc) ads z (mem Y len') m wr) (fun i _ => len - (intOf i).toNat)
          case atStart => exact ⟨0, Nat.zero_le _, rfl, unhide HK4⟩
          case round =>
            obtain ⟨k3, hk3, rfl, hkeep⟩ := hrel
            have HK5 := hide hkeep
            clear hkeep HK4
            by_cases hlt3 : k3 < len
            · have hck : wr.cell? ⟨b, off + k3, none⟩ = some (.int .u16 (z k3)) := by
                rw [(unhide HK5).below.cell (p := ⟨b, off + k3, none⟩) (Nat.lt_of_lt_of_le hb (unhide HB2).size), (unhide HB2).cell (p := ⟨b, off + k3, none⟩) hb]; exact unhide HC k3 hlt3
              obtain ⟨G, hG⟩ := unhide HS (by omega)
              have NK := (unhide HK5).net
              rw [hG] at NK
              clear hG
              have c1 := NK.net.c1
              have c2 := NK.net.c2
              have hlk := last_bounds z (z k3) len
              by_cases hla : last z len (z k3) = (k3 : Int)
              · have hbl : (last z len (z k3) == (k3 : Int)) = true := by simp [hla]
                have HLA := hide hla
                clear hla
                cases hm : mem Y len' (z k3)
                · have hn := NK.nodeCell k3 hlt3
                  rw [many_stays hm] at hn
                  have ho := NK.origCell k3 hlt3
                  generalize ads.getD k3 ⟨0, 0, none⟩ = ad at hn ho
                  have hnq := neq_node ad
                  unfold nodeV at hn ho hnq
                  have HL := hide (many_look (z := z) hlt3 hm)
                  clear NK
                  go_wp2_with fail
                  refine (last_any _ _ _ z (z k3) _ hl ((unhide HRP).below (unhide HK5).below)).mono ?_
                  intro e w6' h6'
                  obtain ⟨rfl, rfl⟩ := h6'
                  go_wp2_with fail
                  refine (mem_any _ _ _ Y (z k3) _ hl' ((unhide HRQ).below (unhide HK5).below)).mono ?_
                  intro e w6' h6'
                  obtain ⟨rfl, rfl⟩ := h6'
                  go_wp2_with fail
                  go_quiet (fail)
                  have HK6 := hide ((unhide HK5).drewN nq)
                  go_wp2_with fail
                  go_region_with (go_at_call 14; refine (addr_any _ _).mono ?_; rintro e w6 ⟨rfl, hb6⟩; have K6 := (unhide HK6).drew.after hb6; have hlook := K6.net.net.idx.lookup (z k3); rw [unhide HL] at hlook; have c26 := K6.net.net.c2; have HK7 := hide K6; clear K6 hb6)
                  all_goals
                    go_wp2_with fail
                    refine (mem_any _ _ _ Y (z k3) _ hl' ((unhide HRQ).below (unhide HK7).below)).mono ?_
                    intro e w6' h6'
                    obtain ⟨rfl, rfl⟩ := h6'
                    go_wp2_with fail
                    refine (last_any _ _ _ z (z k3) _ hl ((unhide HRP).below (unhide HK7).below)).mono ?_
                    intro e w6' h6'
                    obtain ⟨rfl, rfl⟩ := h6'
                    go_wp2_with fail
                    go_roundw
                    case rel => exact ⟨k3 + 1, by omega, by go_num, unhide HK7⟩
                    case measure => simp [intOf]; omega
                · have hn := NK.nodeCell k3 hlt3
                  rw [many_gone hm (unhide HLA)] at hn
                  have HL := hide (many_look_gone (z := z) (len := len) hm)
                  clear NK
                  go_wp2_with fail
                  refine (last_any _ _ _ z (z k3) _ hl ((unhide HRP).below (unhide HK5).below)).mono ?_
                  intro e w6' h6'
                  obtain ⟨rfl, rfl⟩ := h6'
                  go_wp2_with fail
                  refine (mem_any _ _ _ Y (z k3) _ hl' ((unhide HRQ).below (unhide HK5).below)).mono ?_
                  intro e w6' h6'
                  obtain ⟨rfl, rfl⟩ := h6'
                  go_wp2_with fail
                  have HK6 := HK5
                  go_region_with (go_at_call 14; refine (addr_any _ _).mono ?_; rintro e w6 ⟨rfl, hb6⟩; have K6 := (unhide HK6).drew.after hb6; have hlook := K6.net.net.idx.lookup (z k3); rw [unhide HL] at hlook; have c26 := K6.net.net.c2; have HK7 := hide K6; clear K6 hb6)
                  all_goals
                    go_wp2_with fail
                    refine (mem_any _ _ _ Y (z k3) _ hl' ((unhide HRQ).below (unhide HK7).below)).mono ?_
                    intro e w6' h6'
                    obtain ⟨rfl, rfl⟩ := h6'
                    go_wp2_with fail
                    go_roundw
                    case rel => exact ⟨k3 + 1, by omega, by go_num, unhide HK7⟩
                    case measure => simp [intOf]; omega
              · have hbl : (last z len (z k3) == (k3 : Int)) = false := by simpa using hla
                have HLA := hide hla
                clear hla
                cases hm : mem Y len' (z k3)
                · have hn := NK.nodeCell k3 hlt3
                  rw [many_last (unhide HLA)] at hn
                  have ho := NK.origCell k3 hlt3
                  generalize ads.getD k3 ⟨0, 0, none⟩ = ad at hn ho
                  have hnq := neq_node ad
                  unfold nodeV at hn ho hnq
                  have HL := hide (many_look (z := z) hlt3 hm)
                  clear NK
                  go_wp2_with fail
                  refine (last_any _ _ _ z (z k3) _ hl ((unhide HRP).below (unhide HK5).below)).mono ?_
                  intro e w6' h6'
                  obtain ⟨rfl, rfl⟩ := h6'
                  go_wp2_with fail
                  go_quiet (fail)
                  have HK6 := hide ((unhide HK5).drewN nq)
                  go_wp2_with fail
                  go_region_with (go_at_call 14; refine (addr_any _ _).mono ?_; rintro e w6 ⟨rfl, hb6⟩; have K6 := (unhide HK6).drew.after hb6; have hlook := K6.net.net.idx.lookup (z k3); rw [unhide HL] at hlook; have c26 := K6.net.net.c2; have HK7 := hide K6; clear K6 hb6)
                  all_goals
                    go_wp2_with fail
                    refine (mem_any _ _ _ Y (z k3) _ hl' ((unhide HRQ).below (unhide HK7).below)).mono ?_
                    intro e w6' h6'
                    obtain ⟨rfl, rfl⟩ := h6'
                    go_wp2_with fail
                    refine (last_any _ _ _ z (z k3) _ hl ((unhide HRP).below (unhide HK7).below)).mono ?_
                    intro e w6' h6'
                    obtain ⟨rfl, rfl⟩ := h6'
                    go_wp2_with fail
                    go_roundw
                    case rel => exact ⟨k3 + 1, by omega, by go_num, unhide HK7⟩
                    case measure => simp [intOf]; omega
                · have hn := NK.nodeCell k3 hlt3
                  rw [many_last (unhide HLA)] at hn
                  have ho := NK.origCell k3 hlt3
                  generalize ads.getD k3 ⟨0, 0, none⟩ = ad at hn ho
                  have hnq := neq_node ad
                  unfold nodeV at hn ho hnq
                  have HL := hide (many_look_gone (z := z) (len := len) hm)
                  clear NK
                  go_wp2_with fail
                  refine (last_any _ _ _ z (z k3) _ hl ((unhide HRP).below (unhide HK5).below)).mono ?_
                  intro e w6' h6'
                  obtain ⟨rfl, rfl⟩ := h6'
                  go_wp2_with fail
                  go_quiet (fail)
                  have HK6 := hide ((unhide HK5).drewN nq)
                  go_wp2_with fail
                  go_region_with (go_at_call 14; refine (addr_any _ _).mono ?_; rintro e w6 ⟨rfl, hb6⟩; have K6 := (unhide HK6).drew.after hb6; have hlook := K6.net.net.idx.lookup (z k3); rw [unhide HL] at hlook; have c26 := K6.net.net.c2; have HK7 := hide K6; clear K6 hb6)
                  all_goals
                    go_wp2_with fail
                    refine (mem_any _ _ _ Y (z k3) _ hl' ((unhide HRQ).below (unhide HK7).below)).mono ?_
                    intro e w6' h6'
                    obtain ⟨rfl, rfl⟩ := h6'
                    go_wp2_with fail
                    go_roundw
                    case rel => exact ⟨k3 + 1, by omega, by go_num, unhide HK7⟩
                    case measure => simp [intOf]; omega
            · go_wp2_with fail
              go_ret
              exact ⟨rfl, (unhide HB2).trans ((unhide HK5).below.mono (unhide HB2).size)⟩
end Go.Proofs.Ybulkaiki.Net
