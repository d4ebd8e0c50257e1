/-
  The walk of 'LawS1711CLeaveOne' (6): a raw port. Typed by hand.
-/
import Derived.Test.YbulkaikiOneLemmas
namespace Go.Proofs.Ybulkaiki.Net
open Go.ChangeShapes Go.WideShapes Go.ChangeAt Go.RowKit
set_option linter.unusedVariables false

set_option maxRecDepth 100000 in
set_option maxHeartbeats 4000000 in
theorem one_raw_some (b off len cap : Nat) (z : Nat → Int) (q : Int) (w : World) (hrow : Row w (some ⟨b, off, none⟩) len z) (hl : len ≤ 1024) (hc : ∀ j, j < len → w.cell? ⟨b, off + j, none⟩ = some (.int .u16 (z j))) (hb : b < w.heap.size) :
    Calls Yba.prog 6 #[.slice (some ⟨b, off, none⟩) len cap, .int .u16 q, .bool true] w fun e w' => e = .returned (.bool true) ∧ Below w.heap.size w w' := by
  have HC := hide hc
  clear hc
  have hl0 : decide ((1024 : Int) < (len : Int)) = false := by simp; omega
  go_enter Yba.func6, Yba.ntmps6
  go_wp2_with fail
  refine (build_any _ _ _ z _ hl hrow).mono ?_
  rintro e w1 ⟨rfl, hb1, sv, ads, n, hcnt, hnle, hnet⟩
  have N1 := NetS.start hnet hcnt
  obtain ⟨sa, sc, rfl, hsa⟩ := N1.slice
  have row1 := hrow.below hb1
  have c1 := N1.net.c1
  have c2 := N1.net.c2
  have hlen1 := fun ty => N1.net.idx.len ty
  have HN1 := hide N1
  have HB1 := hide hb1
  have HS := hide hsa
  have HROW := hide hrow
  have HROW1 := hide row1
  clear hnet hcnt hsa N1 hb1 hrow row1
  go_wp2_with fail
  refine (last_any _ _ _ z q _ hl (unhide HROW1)).mono ?_
  intro e w1' h1'
  obtain ⟨rfl, rfl⟩ := h1'
  go_wp2_with fail
  refine (addr_any _ _).mono ?_
  rintro e w2 ⟨rfl, hb2⟩
  have HN2 := hide ((unhide HN1).below hb2)
  have HB2 := hide ((unhide HB1).trans (hb2.mono (unhide HB1).size))
  clear hb2 HN1 c1 c2 hlen1
  go_wp2_with fail
  refine (leave_any w2 w.heap.size len _ ads z _ n q (unhide HN2) hl).mono ?_
  rintro e w3 ⟨rfl, hb3, m, N3, hm1, hm2⟩
  have HK3 := hide (Keep.mk ((unhide HB2).trans hb3) N3)
  have c1 := N3.net.c1
  have c2 := N3.net.c2
  have hlen3 := fun ty => N3.net.idx.len ty
  clear N3 HN2 HB2 hb3 HB1
  have HM : Hid ((0 ≤ last z len q → m + 1 = n) ∧ (last z len q < 0 → m = n)) := by
    refine ⟨fun h => hm1 ?_, fun h => hm2 ?_⟩
    · simp [fS, lastf, h]
    · have : ¬ 0 ≤ last z len q := by omega
      simp [fS, lastf, this]
  clear hm1 hm2
  have hlb := last_bounds z q len
  by_cases hj : 0 ≤ last z len q
  all_goals
    have e1 : 0 ≤ last z len q → (m : Int) + 1 ≤ n ∧ (n : Int) ≤ m + 1 := fun h => by have := (unhide HM).1 h; omega
    have e2 : last z len q < 0 → (m : Int) ≤ n ∧ (n : Int) ≤ m := fun h => by have := (unhide HM).2 h; omega
    first
      | (have e3 := e1 hj; have hjb : decide (0 ≤ last z len q) = true := (by simpa using hj); have e5 : ((m : Int) != (n : Int) - 1) = false := (by have := e3; simp; omega))
      | (have e3 := e2 (by omega); have hjb : decide (0 ≤ last z len q) = false := (by simpa using hj); have e5 : ((m : Int) != (n : Int)) = false := (by have := e3; simp; omega))
    obtain ⟨e3, e4⟩ := e3
    clear e1 e2 HM
    go_wp2_with fail
    go_loopw [80] (fun i wr => ∃ (k : Nat), k ≤ len ∧ i = .int .i64 k ∧ Keep w len (.slice sa len sc) ads z (plus (fun _ => false) q) m wr) (fun i _ => len - (intOf i).toNat)
    case atStart => exact ⟨0, Nat.zero_le _, rfl, unhide HK3⟩
    case round =>
      obtain ⟨k, hk, rfl, hkeep⟩ := hrel
      have HK := hide hkeep
      clear hkeep c1 c2 hlen3
      by_cases hlt : k < len
      · obtain ⟨G, hG⟩ := unhide HS (by omega)
        have NK := (unhide HK).net
        have HK1 : Hid (Keep w len (.slice sa len sc) ads z (plus (fun _ => false) q) m wr) := HK
        rw [hG] at NK
        clear hG
        have c1 := NK.net.c1
        by_cases hij : last z len q = (k : Int)
        · have hn := NK.nodeCell k hlt
          rw [node_gone hij] at hn
          have hb1 : ((k : Int) == last z len q) = true := by simp [hij]
          have HIJ := hide hij
          clear hij NK
          go_wp2_with fail
          exact ⟨⟨k + 1, by omega, by go_num, unhide HK⟩, by simp [intOf]; omega⟩
        · have hn := NK.nodeCell k hlt
          rw [node_there hij] at hn
          have ho := NK.origCell k hlt
          have hb1 : ((k : Int) == last z len q) = false := by
            have : ¬ (k : Int) = last z len q := fun e => hij e.symm
            simpa using this
          have HIJ := hide hij
          generalize ads.getD k ⟨0, 0, none⟩ = ad at hn ho
          have hnq := neq_node ad
          unfold nodeV at hn ho hnq
          clear hij NK
          go_wp2_with fail
          go_quiet (fail)
          go_wp2_with fail
          exact ⟨⟨k + 1, by omega, by go_num, (unhide HK).drewN _⟩, by simp [intOf]; omega⟩
      · go_wp2_with fail
        go_loopw [109] (fun i wr => ∃ (k : Nat), k ≤ len ∧ i = .int .i64 k ∧ Keep w len (.slice sa len sc) ads z (plus (fun _ => false) q) m wr) (fun i _ => len - (intOf i).toNat)
        case atStart => exact ⟨0, Nat.zero_le _, rfl, unhide HK⟩
        case round =>
          obtain ⟨k2, hk2, rfl, hkeep⟩ := hrel
          have HK2 := hide hkeep
          clear hkeep
          by_cases hlt2 : k2 < len
          · have hck : wr.cell? ⟨b, off + k2, none⟩ = some (.int .u16 (z k2)) := by
              rw [(unhide HK2).below.cell (p := ⟨b, off + k2, none⟩) hb]; exact unhide HC k2 hlt2
            have c2 := (unhide HK2).net.net.c2
            by_cases hpq : z k2 = q
            · have HL := hide (look_gone (z := z) (len := len) hpq)
              have hb2 : (z k2 == q) = true := by simp [hpq]
              clear hpq
              go_wp2_with fail
              go_region_with (go_at_call 14; refine (addr_any _ _).mono ?_; rintro e w6 ⟨rfl, hb6⟩; have K6 := (unhide HK2).drew.after hb6; have hlook := K6.net.net.idx.lookup (z k2); rw [unhide HL] at hlook; have c26 := K6.net.net.c2; have HK6 := hide K6; clear K6 hb6)
              all_goals
                go_wp2_with fail
                go_roundw
                case rel => exact ⟨k2 + 1, by omega, by go_num, unhide HK6⟩
                case measure => simp [intOf]; omega
            · have HL := hide (look_there (z := z) hlt2 hpq)
              have hb2 : (z k2 == q) = false := by simp [hpq]
              clear hpq
              go_wp2_with fail
              go_region_with (go_at_call 14; refine (addr_any _ _).mono ?_; rintro e w6 ⟨rfl, hb6⟩; have K6 := (unhide HK2).drew.after hb6; have hlook := K6.net.net.idx.lookup (z k2); rw [unhide HL] at hlook; have c26 := K6.net.net.c2; have HK6 := hide K6; clear K6 hb6)
              all_goals
                go_wp2_with fail
                refine (last_any _ _ _ z (z k2) _ hl ((unhide HROW).below (unhide HK6).below)).mono ?_
                intro e w6' h6'
                obtain ⟨rfl, rfl⟩ := h6'
                go_wp2_with fail
                go_roundw
                case rel => exact ⟨k2 + 1, by omega, by go_num, unhide HK6⟩
                case measure => simp [intOf]; omega
          · go_wp2_with fail
            go_ret
            exact ⟨rfl, (unhide HK2).below⟩
end Go.Proofs.Ybulkaiki.Net
