/-
  The walk of 'LawS1711CLeaveMany' (7): ports and no leaves. Typed by hand.
-/
import Derived.Test.YbulkaikiManyLemmas
namespace Go.Proofs.Ybulkaiki.Net
open Go.ChangeShapes Go.WideShapes Go.ChangeAt Go.RowKit
set_option linter.unusedVariables false

set_option maxRecDepth 100000 in
set_option maxHeartbeats 8000000 in
theorem many_sn (b off len cap : Nat) (a' : Option Addr) (cap' : Nat) (z y : Nat → Int) (w : World) (hrow : Row w (some ⟨b, off, none⟩) len z) (hl : len ≤ 1024) (hl' : 0 ≤ 1024) (hc : ∀ j, j < len → w.cell? ⟨b, off + j, none⟩ = some (.int .u16 (z j))) (hb : b < w.heap.size) (hpos : 0 < len)  :
    Calls Yba.prog 7 #[.slice (some ⟨b, off, none⟩) len cap, .slice a' 0 cap'] w fun e w' => e = .returned (.bool true) ∧ Below w.heap.size w w' := by
  have HC := hide hc
  clear hc
  have hl0 : decide ((1024 : Int) < (len : Int)) = false := by simp; omega
  have hp1 : decide ((0 : Int) < (len : Int)) = true := by simp; omega
  have HROW := hide hrow
  clear hrow
  obtain ⟨i0, hi, hz0, hz1, hz2⟩ := info_parts info34
  go_enter Yba.func7, Yba.ntmps7
  go_wp2_with (at_make; refine wpList_make_own _ rfl _ _ 33 rfl w.heap.size 34 i0 (.int .u16 0) 1 Yba.underlying33 hi hz0 hz1 _ _ _ 0 rfl rfl rfl (by rw [hz2]; omega) (by unfold maxLen; omega) (by simp) ?_)
  intro w1 ho hg
  have HO := hide ho
  have HB1 := hide ((Below.refl w.heap.size w).grown hg (Nat.le_refl _) (by simp))
  clear ho hg
  go_wp2_with fail
  go_loopw [5, 31] (fun o i wr => ∃ (k : Nat), k ≤ 0 ∧ i = .int .i64 k ∧ o = .slice (some ⟨w.heap.size, 0, none⟩) k 0 ∧ wr.ownsRow w.heap.size 34 1 (.slice (some ⟨w.heap.size, 0, none⟩) k 0) k (qrow (pickOf z len y) k) ∧ Below w.heap.size w wr) (fun _ i _ => 0 - (intOf i).toNat)
  case atStart => exact ⟨0, Nat.zero_le _, rfl, rfl, unhide HO, unhide HB1⟩
  case round =>
    obtain ⟨k, hk, rfl, rfl, hown, hbel⟩ := hrel
    have HO2 := hide hown
    have HB2 := hide hbel
    clear hown hbel HO HB1
    by_cases hlt : k < 0
    · omega
    · have hkl : 0 = k := by omega
      subst hkl
      obtain ⟨wo, rfl⟩ : ∃ wo : World, wo = wr := ⟨_, rfl⟩
      generalize pickOf z len y = Y at HO2
      have HQ := hide (qrow_cell (unhide HO2))
      have HQL := hide ((unhide HO2).lt w.heap.size rfl).2
      have HRQ : Hid (Row wo (some ⟨w.heap.size, 0, none⟩) 0 Y) := Or.inr ⟨_, 0, rfl, unhide HQ⟩
      have HRP := hide ((unhide HROW).below (unhide HB2))
      clear HO2 HROW
      go_wp2_with fail
      refine (build_any _ _ _ z _ hl (unhide HRP)).mono ?_
      rintro e w3 ⟨rfl, hb3, sv, ads, n, hcnt, hnle, hnet⟩
      have N3 := NetS.start hnet hcnt
      obtain ⟨sa, sc, rfl, hsa⟩ := N3.slice
      have HS := hide hsa
      have HK3 : Hid (Keep wo len (.slice sa len sc) ads z (mem Y 0) n w3) := Keep.mk hb3 (by rw [← mem_zero]; exact N3)
      clear hnet hcnt hsa N3 hb3
      go_wp2_with fail
      go_loopw [64] (fun i wr => ∃ (k m : Nat), k ≤ 0 ∧ i = .int .i64 k ∧ Keep wo len (.slice sa len sc) ads z (mem Y k) m wr) (fun i _ => 0 - (intOf i).toNat)
      case atStart => exact ⟨0, n, Nat.zero_le _, rfl, unhide HK3⟩
      case round =>
        obtain ⟨k, m, hk, rfl, hkeep⟩ := hrel
        have HK := hide hkeep
        clear hkeep HK3
        by_cases hlt : k < 0
        · omega
        · have hkl : k = 0 := by omega
          have HK4 : Hid (Keep wo len (.slice sa len sc) ads z (mem Y 0) m wr) := by have := unhide HK; rw [hkl] at this; exact this
          clear HK hkl
          have c1 := (unhide HK4).net.net.c1
          go_wp2_with fail
          clear c1
          go_loopw [83] (fun i wr => ∃ (k : Nat), k ≤ len ∧ i = .int .i64 k ∧ Keep wo len (.slice sa len sc) ads z (mem Y 0) m wr) (fun i _ => len - (intOf i).toNat)
          case atStart => exact ⟨0, Nat.zero_le _, rfl, unhide HK4⟩
          case round =>
            obtain ⟨k3, hk3, rfl, hkeep⟩ := hrel
            have HK5 := hide hkeep
            clear hkeep HK4
            by_cases hlt3 : k3 < len
            · have hck : wr.cell? ⟨b, off + k3, none⟩ = some (.int .u16 (z k3)) := by
                rw [(unhide HK5).below.cell (p := ⟨b, off + k3, none⟩) (Nat.lt_of_lt_of_le hb (unhide HB2).size), (unhide HB2).cell (p := ⟨b, off + k3, none⟩) hb]; exact unhide HC k3 hlt3
              obtain ⟨G, hG⟩ := unhide HS (by omega)
              have NK := (unhide HK5).net
              rw [hG] at NK
              clear hG
              have c1 := NK.net.c1
              have c2 := NK.net.c2
              have hlk := last_bounds z (z k3) len
              by_cases hla : last z len (z k3) = (k3 : Int)
              · have hbl : (last z len (z k3) == (k3 : Int)) = true := by simp [hla]
                have HLA := hide hla
                clear hla
                cases hm : mem Y 0 (z k3)
                · have hn := NK.nodeCell k3 hlt3
                  rw [many_stays hm] at hn
                  have ho := NK.origCell k3 hlt3
                  generalize ads.getD k3 ⟨0, 0, none⟩ = ad at hn ho
                  have hnq := neq_node ad
                  unfold nodeV at hn ho hnq
                  have HL := hide (many_look (z := z) hlt3 hm)
                  clear NK
                  go_wp2_with fail
                  refine (last_any _ _ _ z (z k3) _ hl ((unhide HRP).below (unhide HK5).below)).mono ?_
                  intro e w6' h6'
                  obtain ⟨rfl, rfl⟩ := h6'
                  go_wp2_with fail
                  refine (mem_any _ _ _ Y (z k3) _ hl' ((unhide HRQ).below (unhide HK5).below)).mono ?_
                  intro e w6' h6'
                  obtain ⟨rfl, rfl⟩ := h6'
                  go_wp2_with fail
                  go_quiet (fail)
                  have HK6 := hide ((unhide HK5).drewN nq)
                  go_wp2_with fail
                  go_region_with (go_at_call 14; refine (addr_any _ _).mono ?_; rintro e w6 ⟨rfl, hb6⟩; have K6 := (unhide HK6).drew.after hb6; have hlook := K6.net.net.idx.lookup (z k3); rw [unhide HL] at hlook; have c26 := K6.net.net.c2; have HK7 := hide K6; clear K6 hb6)
                  all_goals
                    go_wp2_with fail
                    refine (mem_any _ _ _ Y (z k3) _ hl' ((unhide HRQ).below (unhide HK7).below)).mono ?_
                    intro e w6' h6'
                    obtain ⟨rfl, rfl⟩ := h6'
                    go_wp2_with fail
                    refine (last_any _ _ _ z (z k3) _ hl ((unhide HRP).below (unhide HK7).below)).mono ?_
                    intro e w6' h6'
                    obtain ⟨rfl, rfl⟩ := h6'
                    go_wp2_with fail
                    go_roundw
                    case rel => exact ⟨k3 + 1, by omega, by go_num, unhide HK7⟩
                    case measure => simp [intOf]; omega
                · have hn := NK.nodeCell k3 hlt3
                  rw [many_gone hm (unhide HLA)] at hn
                  have HL := hide (many_look_gone (z := z) (len := len) hm)
                  clear NK
                  go_wp2_with fail
                  refine (last_any _ _ _ z (z k3) _ hl ((unhide HRP).below (unhide HK5).below)).mono ?_
                  intro e w6' h6'
                  obtain ⟨rfl, rfl⟩ := h6'
                  go_wp2_with fail
                  refine (mem_any _ _ _ Y (z k3) _ hl' ((unhide HRQ).below (unhide HK5).below)).mono ?_
                  intro e w6' h6'
                  obtain ⟨rfl, rfl⟩ := h6'
                  go_wp2_with fail
                  have HK6 := HK5
                  go_region_with (go_at_call 14; refine (addr_any _ _).mono ?_; rintro e w6 ⟨rfl, hb6⟩; have K6 := (unhide HK6).drew.after hb6; have hlook := K6.net.net.idx.lookup (z k3); rw [unhide HL] at hlook; have c26 := K6.net.net.c2; have HK7 := hide K6; clear K6 hb6)
                  all_goals
                    go_wp2_with fail
                    refine (mem_any _ _ _ Y (z k3) _ hl' ((unhide HRQ).below (unhide HK7).below)).mono ?_
                    intro e w6' h6'
                    obtain ⟨rfl, rfl⟩ := h6'
                    go_wp2_with fail
                    go_roundw
                    case rel => exact ⟨k3 + 1, by omega, by go_num, unhide HK7⟩
                    case measure => simp [intOf]; omega
              · have hbl : (last z len (z k3) == (k3 : Int)) = false := by simpa using hla
                have HLA := hide hla
                clear hla
                cases hm : mem Y 0 (z k3)
                · have hn := NK.nodeCell k3 hlt3
                  rw [many_last (unhide HLA)] at hn
                  have ho := NK.origCell k3 hlt3
                  generalize ads.getD k3 ⟨0, 0, none⟩ = ad at hn ho
                  have hnq := neq_node ad
                  unfold nodeV at hn ho hnq
                  have HL := hide (many_look (z := z) hlt3 hm)
                  clear NK
                  go_wp2_with fail
                  refine (last_any _ _ _ z (z k3) _ hl ((unhide HRP).below (unhide HK5).below)).mono ?_
                  intro e w6' h6'
                  obtain ⟨rfl, rfl⟩ := h6'
                  go_wp2_with fail
                  go_quiet (fail)
                  have HK6 := hide ((unhide HK5).drewN nq)
                  go_wp2_with fail
                  go_region_with (go_at_call 14; refine (addr_any _ _).mono ?_; rintro e w6 ⟨rfl, hb6⟩; have K6 := (unhide HK6).drew.after hb6; have hlook := K6.net.net.idx.lookup (z k3); rw [unhide HL] at hlook; have c26 := K6.net.net.c2; have HK7 := hide K6; clear K6 hb6)
                  all_goals
                    go_wp2_with fail
                    refine (mem_any _ _ _ Y (z k3) _ hl' ((unhide HRQ).below (unhide HK7).below)).mono ?_
                    intro e w6' h6'
                    obtain ⟨rfl, rfl⟩ := h6'
                    go_wp2_with fail
                    refine (last_any _ _ _ z (z k3) _ hl ((unhide HRP).below (unhide HK7).below)).mono ?_
                    intro e w6' h6'
                    obtain ⟨rfl, rfl⟩ := h6'
                    go_wp2_with fail
                    go_roundw
                    case rel => exact ⟨k3 + 1, by omega, by go_num, unhide HK7⟩
                    case measure => simp [intOf]; omega
                · have hn := NK.nodeCell k3 hlt3
                  rw [many_last (unhide HLA)] at hn
                  have ho := NK.origCell k3 hlt3
                  generalize ads.getD k3 ⟨0, 0, none⟩ = ad at hn ho
                  have hnq := neq_node ad
                  unfold nodeV at hn ho hnq
                  have HL := hide (many_look_gone (z := z) (len := len) hm)
                  clear NK
                  go_wp2_with fail
                  refine (last_any _ _ _ z (z k3) _ hl ((unhide HRP).below (unhide HK5).below)).mono ?_
                  intro e w6' h6'
                  obtain ⟨rfl, rfl⟩ := h6'
                  go_wp2_with fail
                  go_quiet (fail)
                  have HK6 := hide ((unhide HK5).drewN nq)
                  go_wp2_with fail
                  go_region_with (go_at_call 14; refine (addr_any _ _).mono ?_; rintro e w6 ⟨rfl, hb6⟩; have K6 := (unhide HK6).drew.after hb6; have hlook := K6.net.net.idx.lookup (z k3); rw [unhide HL] at hlook; have c26 := K6.net.net.c2; have HK7 := hide K6; clear K6 hb6)
                  all_goals
                    go_wp2_with fail
                    refine (mem_any _ _ _ Y (z k3) _ hl' ((unhide HRQ).below (unhide HK7).below)).mono ?_
                    intro e w6' h6'
                    obtain ⟨rfl, rfl⟩ := h6'
                    go_wp2_with fail
                    go_roundw
                    case rel => exact ⟨k3 + 1, by omega, by go_num, unhide HK7⟩
                    case measure => simp [intOf]; omega
            · go_wp2_with fail
              go_ret
              exact ⟨rfl, (unhide HB2).trans ((unhide HK5).below.mono (unhide HB2).size)⟩
end Go.Proofs.Ybulkaiki.Net
