/-
  What the walk of 'LawS1711CLeaveMany' (7) needs. Typed by hand.
-/
import Derived.Test.YbulkaikiOneLemmas
namespace Go.Proofs.Ybulkaiki.Net
open Go.ChangeShapes Go.WideShapes Go.ChangeAt Go.RowKit
set_option linter.unusedVariables false

theorem info34 : (Yba.prog.info? 34).map (fun i => (i.zero, i.size, i.bytes)) = some (some (.int .u16 0), 1, 2) := by kernel_rfl

/-- The port that the k-th leave takes. -/
def pickOf (z : Nat → Int) (len : Nat) (y : Nat → Int) (k : Nat) : Int := if y k % 2 = 0 ∧ 0 < len then z (y k % (len : Int)).toNat else y k

theorem pick_list {z : Nat → Int} {len : Nat} {y : Nat → Int} {k : Nat} (h : y k % 2 = 0) (hl : 0 < len) : pickOf z len y k = z (y k % (len : Int)).toNat := by simp [pickOf, h, hl]
theorem pick_odd {z : Nat → Int} {len : Nat} {y : Nat → Int} {k : Nat} (h : ¬ y k % 2 = 0) : pickOf z len y k = y k := by simp [pickOf, h]
theorem pick_none {z : Nat → Int} {len : Nat} {y : Nat → Int} {k : Nat} (hl : ¬ 0 < len) : pickOf z len y k = y k := by simp [pickOf, hl]

/-- The row of the ports that leave, k of them. -/
def qrow (y : Nat → Int) (k : Nat) : List Value := (List.range k).map (fun j => .int .u16 (y j))
theorem qrow_step (y : Nat → Int) (k : Nat) : qrow y k ++ [.int .u16 (y k)] = qrow y (k + 1) := by simp [qrow, List.range_succ]

theorem qrow_cell {w : World} {B b k cap : Nat} {y : Nat → Int} (h : w.ownsRow B 34 1 (.slice (some ⟨b, 0, none⟩) k cap) k (qrow y k)) : ∀ j, j < k → w.cell? ⟨b, 0 + j, none⟩ = some (.int .u16 (y j)) := by
  intro j hj
  rw [Nat.zero_add, h.cellAt j (by omega)]
  simp [qrow, hj]

theorem plus_mem (y : Nat → Int) (k : Nat) : plus (mem y k) (y k) = mem y (k + 1) := by
  funext x
  have e : (x == y k) = (y k == x) := by
    rw [Bool.eq_iff_iff, beq_iff_eq, beq_iff_eq]
    exact eq_comm
  show (mem y k x || x == y k) = (mem y k x || (y k == x))
  rw [e]

theorem mem_zero (y : Nat → Int) : (fun _ => false) = mem y 0 := by funext x; rfl

theorem many_gone {z : Nat → Int} {len : Nat} {S : Int → Bool} {ads : List Addr} {k : Nat} (h1 : S (z k) = true) (h2 : last z len (z k) = (k : Int)) : nodeAt z len S ads k = .nilIface := by
  unfold nodeAt; rw [if_pos ⟨h1, h2⟩]
theorem many_last {z : Nat → Int} {len : Nat} {S : Int → Bool} {ads : List Addr} {k : Nat} (h2 : ¬ last z len (z k) = (k : Int)) : nodeAt z len S ads k = nodeV (ads.getD k ⟨0, 0, none⟩) := by
  unfold nodeAt; rw [if_neg (fun h => h2 h.2)]
theorem many_stays {z : Nat → Int} {len : Nat} {S : Int → Bool} {ads : List Addr} {k : Nat} (h1 : S (z k) = false) : nodeAt z len S ads k = nodeV (ads.getD k ⟨0, 0, none⟩) := by
  unfold nodeAt; rw [if_neg (fun h => by rw [h1] at h; cases h.1)]
theorem many_look_gone {z : Nat → Int} {len : Nat} {S : Int → Bool} {x : Int} (h : S x = true) : fS z len S x = none := by
  unfold fS; rw [if_pos h]
theorem many_look {z : Nat → Int} {len : Nat} {S : Int → Bool} {k : Nat} (hk : k < len) (h : S (z k) = false) : fS z len S (z k) = some (last z len (z k)) := by
  unfold fS lastf
  rw [if_neg (by simp [h]), if_pos]
  have := last_ge (z := z) (p := z k) (i := k) rfl hk
  omega

theorem one_u16 (x : Int) : ∀ u ∈ [Value.int .u16 x], u.oneCell' = true := by
  intro u hu
  obtain rfl := List.mem_singleton.1 hu
  rfl

set_option maxHeartbeats 400000 in
theorem many_long0 (a : Option Addr) (len cap : Nat) (a' : Option Addr) (len' cap' : Nat) (w : World) (h : (1024 : Int) < (len : Int)) :
    Calls Yba.prog 7 #[.slice a len cap, .slice a' len' cap'] w fun e w' => e = .returned (.bool true) ∧ Below w.heap.size w w' := by
  go_enter Yba.func7, Yba.ntmps7
  go_wp2
  go_ret
  exact ⟨rfl, Below.refl _ _⟩

set_option maxHeartbeats 400000 in
theorem many_long1 (a : Option Addr) (len cap : Nat) (a' : Option Addr) (len' cap' : Nat) (w : World) (h0 : decide ((1024 : Int) < (len : Int)) = false) (h : (1024 : Int) < (len' : Int)) :
    Calls Yba.prog 7 #[.slice a len cap, .slice a' len' cap'] w fun e w' => e = .returned (.bool true) ∧ Below w.heap.size w w' := by
  go_enter Yba.func7, Yba.ntmps7
  go_wp2
  go_ret
  exact ⟨rfl, Below.refl _ _⟩
end Go.Proofs.Ybulkaiki.Net
