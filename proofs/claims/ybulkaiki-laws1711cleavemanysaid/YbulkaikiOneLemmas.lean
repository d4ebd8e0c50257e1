/-
  What the walks of 'LawS1711CLeaveOne' (6) and 'LawS1711CLeaveMany' (7) need. Typed by hand.
-/
import Derived.Test.YbulkaikiNetS
namespace Go.Proofs.Ybulkaiki.Net
open Go.ChangeShapes Go.WideShapes Go.ChangeAt Go.RowKit
set_option linter.unusedVariables false

theorem plus_false (q x : Int) : plus (fun _ => false) q x = (x == q) := by simp [plus]

/-- At the place of q's last holder lies nil. -/
theorem node_gone {z : Nat → Int} {len : Nat} {q : Int} {ads : List Addr} {k : Nat} (h : last z len q = (k : Int)) : nodeAt z len (plus (fun _ => false) q) ads k = .nilIface := by
  obtain ⟨_, hz⟩ := last_some_lt h
  unfold nodeAt
  rw [if_pos ⟨by simp [plus, hz], by rw [hz]; exact h⟩]
theorem node_there {z : Nat → Int} {len : Nat} {q : Int} {ads : List Addr} {k : Nat} (h : ¬ last z len q = (k : Int)) : nodeAt z len (plus (fun _ => false) q) ads k = nodeV (ads.getD k ⟨0, 0, none⟩) := by
  unfold nodeAt
  rw [if_neg]
  rintro ⟨h1, h2⟩
  have : z k = q := by simpa [plus] using h1
  rw [this] at h2
  exact h h2
theorem look_gone {z : Nat → Int} {len : Nat} {q x : Int} (h : x = q) : fS z len (plus (fun _ => false) q) x = none := by
  unfold fS; rw [if_pos (by simp [plus, h])]
theorem look_there {z : Nat → Int} {len : Nat} {q : Int} {k : Nat} (hk : k < len) (h : ¬ z k = q) : fS z len (plus (fun _ => false) q) (z k) = some (last z len (z k)) := by
  unfold fS lastf
  rw [if_neg (by simp [plus, h]), if_pos]
  have := last_ge (z := z) (p := z k) (i := k) rfl hk
  omega

theorem Row.below {w w' : World} {a : Option Addr} {len : Nat} {z : Nat → Int} (h : Row w a len z) (hb : Below w.heap.size w w') : Row w' a len z :=
  h.kept fun p v hp => (hb.cell (World.block_lt_of_cell? w p hp)).trans hp

/-- What the two loops carry: nothing old has turned; the network stands as q's leaving has left it. -/
structure Keep (w : World) (len : Nat) (sv : Value) (ads : List Addr) (z : Nat → Int) (S : Int → Bool) (n : Nat) (wr : World) : Prop where
  below : Below w.heap.size w wr
  net : NetS wr w.heap.size len sv ads z S n

theorem Keep.after {w : World} {len : Nat} {sv : Value} {ads : List Addr} {z : Nat → Int} {S : Int → Bool} {n : Nat} {wr w' : World} (h : Keep w len sv ads z S n wr) (hb : Below wr.heap.size wr w') : Keep w len sv ads z S n w' :=
  ⟨h.below.trans (hb.mono h.below.size), h.net.below hb⟩
theorem Keep.drew {w : World} {len : Nat} {sv : Value} {ads : List Addr} {z : Nat → Int} {S : Int → Bool} {n : Nat} {wr : World} (h : Keep w len sv ads z S n wr) : Keep w len sv ads z S n wr.drew := h.after (Below.refl _ _).drew
theorem Keep.drewN {w : World} {len : Nat} {sv : Value} {ads : List Addr} {z : Nat → Int} {S : Int → Bool} {n : Nat} {wr : World} (h : Keep w len sv ads z S n wr) (k : Nat) : Keep w len sv ads z S n (wr.drewN k) := h.after (below_drewN (Below.refl _ _) k)

theorem one_long (a : Option Addr) (len cap : Nat) (q : Int) (raw : Bool) (w : World) (h : (1024 : Int) < (len : Int)) :
    Calls Yba.prog 6 #[.slice a len cap, .int .u16 q, .bool raw] w fun e w' => e = .returned (.bool true) ∧ Below w.heap.size w w' := by
  go_enter Yba.func6, Yba.ntmps6
  go_wp2
  go_ret
  exact ⟨rfl, Below.refl _ _⟩
end Go.Proofs.Ybulkaiki.Net
