/-
  The network after some ports have left ('S'): one form for both laws on 'Leave'. Typed by hand.
-/
import Derived.Test.YbulkaikiBuild
namespace Go.Proofs.Ybulkaiki.Net
open Go.ChangeShapes Go.WideShapes Go.ChangeAt Go.RowKit
set_option linter.unusedVariables false

/-- What the index holds once the ports of S have left. -/
def fS (z : Nat → Int) (len : Nat) (S : Int → Bool) (x : Int) : Option Int := if S x = true then none else lastf z len x

/-- What lies at place i of the nodes. -/
def nodeAt (z : Nat → Int) (len : Nat) (S : Int → Bool) (ads : List Addr) (i : Nat) : Value :=
  if S (z i) = true ∧ last z len (z i) = (i : Int) then .nilIface else nodeV (ads.getD i ⟨0, 0, none⟩)

structure NetS (w : World) (B len : Nat) (sv : Value) (ads : List Addr) (z : Nat → Int) (S : Int → Bool) (n : Nat) : Prop where
  net : Net w B len sv len ((List.range len).map (nodeAt z len S ads)) ads (fS z len S) n
  count : ads.length = len

theorem last_some_lt {z : Nat → Int} {p : Int} : ∀ {n : Nat} {j : Nat}, last z n p = (j : Int) → j < n ∧ z j = p
  | 0, j, h => by simp [last] at h
  | n + 1, j, h => by
    by_cases hz : z n = p
    · rw [last_yes hz] at h
      have : n = j := by omega
      subst this
      exact ⟨by omega, hz⟩
    · rw [last_no hz] at h
      obtain ⟨h1, h2⟩ := last_some_lt h
      exact ⟨by omega, h2⟩

theorem last_ge {z : Nat → Int} {p : Int} {i : Nat} (hz : z i = p) : ∀ {n : Nat}, i < n → (i : Int) ≤ last z n p
  | 0, h => by omega
  | n + 1, h => by
    by_cases hn : z n = p
    · rw [last_yes hn]; omega
    · rw [last_no hn]
      by_cases e : i = n
      · subst e; exact absurd hz hn
      · exact last_ge hz (by omega)

theorem map_start (z : Nat → Int) (len : Nat) (ads : List Addr) (h : ads.length = len) : (List.range len).map (nodeAt z len (fun _ => false) ads) = ads.map nodeV := by
  apply List.ext_getElem?
  intro i
  by_cases hi : i < len
  · have : i < ads.length := by omega
    simp [nodeAt, hi, this, List.getD]
  · have : ¬ i < ads.length := by omega
    simp [hi, this]

theorem NetS.start {w : World} {B len : Nat} {sv : Value} {ads : List Addr} {z : Nat → Int} {n : Nat} (h : Net w B len sv len (ads.map nodeV) ads (lastf z len) n) (hc : ads.length = len) : NetS w B len sv ads z (fun _ => false) n := by
  refine ⟨?_, hc⟩
  rw [map_start z len ads hc]
  have e : fS z len (fun _ => false) = lastf z len := by funext x; simp [fS]
  rw [e]
  exact h

theorem map_set (g g' : Nat → Value) (len j : Nat) (v : Value) (hj : j < len) (h1 : g' j = v) (h2 : ∀ i, i < len → i ≠ j → g' i = g i) : ((List.range len).map g).set j v = (List.range len).map g' := by
  apply List.ext_getElem?
  intro i
  rw [List.getElem?_set]
  by_cases hi : i < len
  · by_cases e : j = i
    · subst e; simp [hi, h1]
    · have := h2 i hi (fun e' => e e'.symm)
      simp [e, hi, this]
  · have : ¬ j = i := by omega
    simp [this, hi]

theorem map_same (g g' : Nat → Value) (len : Nat) (h : ∀ i, i < len → g' i = g i) : (List.range len).map g = (List.range len).map g' := by
  apply List.map_congr_left
  intro i hi
  exact (h i (List.mem_range.1 hi)).symm

/-- One more port leaves. -/
def plus (S : Int → Bool) (q : Int) (x : Int) : Bool := S x || x == q

theorem fS_plus (z : Nat → Int) (len : Nat) (S : Int → Bool) (q : Int) : (fun x => if x = q then none else fS z len S x) = fS z len (plus S q) := by
  funext x
  unfold fS plus
  by_cases h : x = q
  · simp [h]
  · simp [h]

theorem fS_plus_none {z : Nat → Int} {len : Nat} {S : Int → Bool} {q : Int} (h : fS z len S q = none) : fS z len S = fS z len (plus S q) := by
  rw [← fS_plus]
  funext x
  by_cases hx : x = q
  · rw [if_pos hx, hx, h]
  · rw [if_neg hx]

theorem fS_some {z : Nat → Int} {len : Nat} {S : Int → Bool} {q v : Int} (h : fS z len S q = some v) : S q = false ∧ ∃ j : Nat, v = j ∧ last z len q = (j : Int) ∧ j < len ∧ z j = q := by
  unfold fS at h
  by_cases hS : S q = true
  · simp [hS] at h
  · rw [if_neg hS] at h
    unfold lastf at h
    by_cases h0 : 0 ≤ last z len q
    · rw [if_pos h0] at h
      obtain ⟨j, hj⟩ := Int.eq_ofNat_of_zero_le h0
      obtain ⟨h1, h2⟩ := last_some_lt hj
      exact ⟨by simpa using hS, j, by rw [← hj]; exact (Option.some.inj h).symm, hj, h1, h2⟩
    · rw [if_neg h0] at h; cases h

theorem fS_none {z : Nat → Int} {len : Nat} {S : Int → Bool} {q : Int} (h : fS z len S q = none) : S q = true ∨ last z len q < 0 := by
  unfold fS lastf at h
  by_cases hS : S q = true
  · exact Or.inl hS
  · rw [if_neg hS] at h
    by_cases h0 : 0 ≤ last z len q
    · rw [if_pos h0] at h; cases h
    · exact Or.inr (by omega)

/-- '(*Network).Leave' at whatever port. -/
theorem leave_any (w : World) (B len : Nat) (sv : Value) (ads : List Addr) (z : Nat → Int) (S : Int → Bool) (n : Nat) (q : Int) (h : NetS w B len sv ads z S n) (hl : len ≤ 1024) :
    Calls Yba.prog 13 #[.pointer (some ⟨B + 1, 0, none⟩), key q] w fun e w' => e = .returned (.tuple #[]) ∧ Below B w w' ∧ ∃ m, NetS w' B len sv ads z (plus S q) m ∧
      ((fS z len S q).isSome = true → m + 1 = n) ∧ ((fS z len S q).isSome = false → m = n) := by
  have hbig := h.net.big
  cases hf : fS z len S q with
  | none =>
    refine (leave_none w B len sv len _ ads _ n q h.net hf).mono fun e w' ⟨he, hb⟩ => ⟨he, hb.mono (by omega), n, ⟨?_, h.count⟩, by simp, by simp⟩
    have hn := h.net.below hb
    rw [fS_plus_none hf] at hn
    rw [map_same (nodeAt z len S ads) (nodeAt z len (plus S q) ads) len ?_] at hn
    · exact hn
    · intro i hi
      unfold nodeAt plus
      rcases fS_none hf with h1 | h1
      · by_cases hz : z i = q
        · simp [hz, h1]
        · simp [hz]
      · by_cases hz : z i = q
        · have := last_ge hz hi
          omega
        · simp [hz]
  | some v =>
    obtain ⟨hS, j, rfl, hj, hjl, hz⟩ := fS_some hf
    refine (leave_some w B len sv len _ ads _ n q j h.net hf hjl hl).mono fun e w' ⟨he, hb, hn, h1⟩ => ⟨he, hb, n - 1, ⟨?_, h.count⟩, by intro _; omega, by simp⟩
    rw [fS_plus] at hn
    rw [map_set (nodeAt z len S ads) (nodeAt z len (plus S q) ads) len j .nilIface hjl ?_ ?_] at hn
    · exact hn
    · unfold nodeAt plus
      rw [if_pos]
      exact ⟨by simp [hz], by rw [hz]; exact hj⟩
    · intro i hi hne
      unfold nodeAt plus
      by_cases hzi : z i = q
      · have : ¬ last z len q = (i : Int) := by omega
        simp [hzi, this]
      · simp [hzi]

theorem NetS.below {w w' : World} {B len : Nat} {sv : Value} {ads : List Addr} {z : Nat → Int} {S : Int → Bool} {n : Nat} (h : NetS w B len sv ads z S n) (hb : Below w.heap.size w w') : NetS w' B len sv ads z S n := ⟨h.net.below hb, h.count⟩
theorem NetS.drew {w : World} {B len : Nat} {sv : Value} {ads : List Addr} {z : Nat → Int} {S : Int → Bool} {n : Nat} (h : NetS w B len sv ads z S n) : NetS w.drew B len sv ads z S n := ⟨h.net.drew, h.count⟩
theorem NetS.drewN {w : World} {B len : Nat} {sv : Value} {ads : List Addr} {z : Nat → Int} {S : Int → Bool} {n : Nat} (h : NetS w B len sv ads z S n) (k : Nat) : NetS (w.drewN k) B len sv ads z S n := h.below (below_drewN (Below.refl _ _) k)

/-- The nodes' slice, written out. -/
theorem NetS.slice {w : World} {B len : Nat} {sv : Value} {ads : List Addr} {z : Nat → Int} {S : Int → Bool} {n : Nat} (h : NetS w B len sv ads z S n) : ∃ sa sc, sv = .slice sa len sc ∧ (0 < len → ∃ G, sa = some ⟨G, 0, none⟩) := by
  rcases h.net.nodes.2 with ⟨e, h0⟩ | ⟨g, c, cur, e, _⟩
  · exact ⟨none, 0, by rw [e, h0], fun h => by omega⟩
  · exact ⟨_, _, e, fun _ => ⟨g, rfl⟩⟩

theorem NetS.nodeCell {w : World} {B len G sc : Nat} {ads : List Addr} {z : Nat → Int} {S : Int → Bool} {n : Nat} (h : NetS w B len (.slice (some ⟨G, 0, none⟩) len sc) ads z S n) (i : Nat) (hi : i < len) : w.cell? ⟨G, i, none⟩ = some (nodeAt z len S ads i) := by
  rw [h.net.nodes.cellAt i (by omega)]
  simp [hi]
theorem NetS.origCell {w : World} {B len : Nat} {sv : Value} {ads : List Addr} {z : Nat → Int} {S : Int → Bool} {n : Nat} (h : NetS w B len sv ads z S n) (i : Nat) (hi : i < len) : w.cell? ⟨B + 1 + 1, i, none⟩ = some (nodeV (ads.getD i ⟨0, 0, none⟩)) := by
  rw [h.net.orig.cellAt i (by omega)]
  have : i < ads.length := by rw [h.count]; exact hi
  simp [List.getD, this]

theorem info69 : (Yba.prog.info? 69).map (fun i => i.comparable) = some true := by kernel_rfl
theorem info71 : (Yba.prog.info? 71).isSome = true := by kernel_rfl

/-- 'n.nodes[i] != orig[i]', one and the same node. -/
theorem neq_node (a : Addr) (w : World) : (binOp .neq 64 (nodeV a) (nodeV a)).run Yba.prog w = .ok (.bool false) w := by
  obtain ⟨i, hi, hc⟩ := Option.map_eq_some_iff.1 info69
  obtain ⟨j, hj⟩ := Option.isSome_iff_exists.1 info71
  have := run_equalIn_iface_ptr_same (P := Yba.prog) w 9998 (i := i) (j := j) a Yba.underlying64 Yba.underlying69 hi hc hj
  unfold nodeV
  simp only [binOp]
  simp [Op.equal, Op.maxDepth, this]
end Go.Proofs.Ybulkaiki.Net
