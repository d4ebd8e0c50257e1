/-
  '(*Network).Leave' (13) on a network that the laws have built. Typed by hand.
-/
import Derived.Test.YbulkaikiSmall
import Derived.LaidEql
import Derived.Deep.QuietTactic
import Derived.BigQuiet
import Derived.WalkLawsBesides
namespace Go.Proofs.Ybulkaiki.Net
open Go.ChangeShapes Go.WideShapes Go.ChangeAt Go.RowKit
set_option linter.unusedVariables false

/-- A node, as it lies in an interface value. -/
def nodeV (a : Addr) : Value := .iface 69 (.pointer (some a))

/-- A NETWORK: block B: the index; block B + 1: the struct; block B + 2: 'orig'; the nodes' row lies beyond. -/
structure Net (w : World) (B len : Nat) (sv : Value) (cap : Nat) (cs : List Value) (ads : List Addr) (f : Int → Option Int) (n : Nat) : Prop where
  nodes : w.ownsRow (B + 3) 64 1 sv len cs
  orig : w.ownsRow (B + 2) 64 1 (.slice (some ⟨B + 1 + 1, 0, none⟩) len cap) len (ads.map nodeV)
  c1 : w.cell? ⟨B + 1, 1, none⟩ = some sv
  c2 : w.cell? ⟨B + 1, 2, none⟩ = some (.map (some B))
  idx : Idx w B f n
  big : B + 3 ≤ w.heap.size

theorem grown_of_below {w w' : World} (hb : Below w.heap.size w w') (row : Option Nat) : w.grownBy w' row := ⟨hb.os, hb.tape, hb.output, hb.size, fun k hk _ => hb.block k hk⟩

/-- Whatever turns no old block keeps the network. -/
theorem Net.below {w w' : World} {B len : Nat} {sv : Value} {cap : Nat} {cs : List Value} {ads : List Addr} {f : Int → Option Int} {n : Nat} (h : Net w B len sv cap cs ads f n) (hb : Below w.heap.size w w') : Net w' B len sv cap cs ads f n := by
  have hbig := h.big
  exact ⟨h.nodes.kept (grown_of_below hb none) (by cases sv.ownBlock <;> simp), h.orig.kept (grown_of_below hb none) (by simp [Value.ownBlock]),
    (hb.cell (p := ⟨B + 1, 1, none⟩) (show B + 1 < _ by omega)).trans h.c1, (hb.cell (p := ⟨B + 1, 2, none⟩) (show B + 1 < _ by omega)).trans h.c2,
    h.idx.kept (hb.block B (by omega)), Nat.le_trans hbig hb.size⟩

/-- A node's place is written. -/
theorem Net.stored {w : World} {B len G capn : Nat} {cap : Nat} {cs : List Value} {ads : List Addr} {f : Int → Option Int} {n : Nat} (h : Net w B len (.slice (some ⟨G, 0, none⟩) len capn) cap cs ads f n) (hG : B + 3 ≤ G) (i : Nat) (u : Value) :
    Net (w.setCell ⟨G, i, none⟩ u) B len (.slice (some ⟨G, 0, none⟩) len capn) cap (cs.set i u) ads f n := by
  obtain ⟨h1, h2⟩ := h.nodes.stored i u
  have hne : ∀ k, k ≠ G → (w.setCell ⟨G, i, none⟩ u).heap[k]? = w.heap[k]? := fun k hk => Below.heap_setCell w _ _ k hk
  exact ⟨h1, h.orig.kept h2 (Or.inr (by simp [Value.ownBlock]; omega)), (World.cell?_of_block (hne _ (show B + 1 ≠ G by omega))).trans h.c1,
    (World.cell?_of_block (hne _ (show B + 1 ≠ G by omega))).trans h.c2, h.idx.kept (hne _ (by omega)), by simpa using h.big⟩

theorem Net.drew {w : World} {B len : Nat} {sv : Value} {cap : Nat} {cs : List Value} {ads : List Addr} {f : Int → Option Int} {n : Nat} (h : Net w B len sv cap cs ads f n) : Net w.drew B len sv cap cs ads f n :=
  ⟨h.nodes, h.orig, h.c1, h.c2, h.idx, h.big⟩

/-- The index is written. -/
theorem Net.indexed {w w' : World} {B len : Nat} {sv : Value} {cap : Nat} {cs : List Value} {ads : List Addr} {f g : Int → Option Int} {n m : Nat} (h : Net w B len sv cap cs ads f n) (hg : w.grownBy w' (some B)) (hi : Idx w' B g m) : Net w' B len sv cap cs ads g m := by
  have hbig := h.big
  have hne : ∀ k, k < w.heap.size → k ≠ B → w'.heap[k]? = w.heap[k]? := fun k hk hn => hg.block k hk (by simpa using hn)
  refine ⟨h.nodes.kept hg ?_, h.orig.kept hg (Or.inr (by simp [Value.ownBlock]; omega)), (World.cell?_of_block (hne _ (show B + 1 < _ by omega) (by simp))).trans h.c1,
    (World.cell?_of_block (hne _ (show B + 1 < _ by omega) (by simp))).trans h.c2, hi, Nat.le_trans hbig hg.size⟩
  cases hs : sv.ownBlock with
  | none => exact Or.inl rfl
  | some k =>
    have := (h.nodes.lt k hs).1
    exact Or.inr (by simp; omega)

theorem below_new (w : World) (o : Obj) (nq : Nat) : Below w.heap.size w ((w.alloc o).drewN nq) := below_drewN ((Below.refl _ _).alloc (Nat.le_refl _) _) nq

set_option maxHeartbeats 400000 in
theorem leave_none (w : World) (B len : Nat) (sv : Value) (cap : Nat) (cs : List Value) (ads : List Addr) (f : Int → Option Int) (n : Nat) (q : Int) (h : Net w B len sv cap cs ads f n) (hq : f q = none) :
    Calls Yba.prog 13 #[.pointer (some ⟨B + 1, 0, none⟩), .agg #[.int .u64 0, .int .u64 0, .pointer none, .int .u16 q]] w fun e w' => e = .returned (.tuple #[]) ∧ Below w.heap.size w w' := by
  have hlook := fun (o : Obj) (nq : Nat) => (h.below (below_new w o nq)).idx.lookup q
  have c2 := h.c2
  have hb : B + 1 < w.heap.size := by have := h.big; omega
  simp only [hq, key] at hlook
  clear h hq
  go_enter Yba.func13, Yba.ntmps13
  go_wp2_with fail
  go_quiet (fail)
  go_wp2
  go_end0
  exact ⟨rfl, below_new _ _ _⟩

set_option maxHeartbeats 1000000 in
theorem leave_some (w : World) (B len : Nat) (sv : Value) (cap : Nat) (cs : List Value) (ads : List Addr) (f : Int → Option Int) (n : Nat) (q : Int) (i : Nat) (h : Net w B len sv cap cs ads f n) (hq : f q = some (i : Int)) (hi : i < len) (hl : len ≤ 1024) :
    Calls Yba.prog 13 #[.pointer (some ⟨B + 1, 0, none⟩), .agg #[.int .u64 0, .int .u64 0, .pointer none, .int .u16 q]] w fun e w' => e = .returned (.tuple #[]) ∧ Below B w w' ∧
      Net w' B len sv cap (cs.set i .nilIface) ads (fun x => if x = q then none else f x) (n - 1) ∧ 1 ≤ n := by
  have hlook := fun (o : Obj) (nq : Nat) => (h.below (below_new w o nq)).idx.lookup q
  have c2 := h.c2
  have c1 := h.c1
  have hb : B + 1 < w.heap.size := by have := h.big; omega
  simp only [hq, key] at hlook
  obtain ⟨G, capn, rfl, hG⟩ : ∃ G capn, sv = .slice (some ⟨G, 0, none⟩) len capn ∧ B + 3 ≤ G := by
    rcases h.nodes.2 with ⟨_, e⟩ | ⟨g, c, cur, e, hb, _⟩
    · omega
    · exact ⟨g, c, e, hb⟩
  have hGlt : G < w.heap.size := (h.nodes.lt G rfl).2
  have hcell : ∃ u, w.cell? ⟨G, i, none⟩ = some u := by
    have h1 := h.nodes.cellAt i (by omega)
    have h2 : i < cs.length := by rw [h.nodes.1]; omega
    exact ⟨cs[i], by rw [h1]; simp [h2]⟩
  obtain ⟨u, hcell⟩ := hcell
  have hfz := h.nodes.frozenAt i
  have H := hide h
  have HQ := hide hq
  clear h hq
  go_enter Yba.func13, Yba.ntmps13
  go_wp2_with fail
  go_quiet (fail)
  go_wp2_with fail
  have h2 := (((unhide H).below (below_new w (Obj.cells #[Value.int IntKind.u64 0, Value.int IntKind.u64 0, Value.pointer none, Value.int IntKind.u16 q] 61) nq)).stored hG i .nilIface).drew
  obtain ⟨w5, hdel, hidx, hn, hg⟩ := h2.idx.del q 0
  have H3 := hide (h2.indexed hg hidx)
  have HQ1 := unhide HQ
  simp only [HQ1, Option.isSome_some, if_true, forall_const] at H3 hn
  have HB : Hid (Below B w w5) := by
    have b1 := (below_new w (Obj.cells #[Value.int IntKind.u64 0, Value.int IntKind.u64 0, Value.pointer none, Value.int IntKind.u16 q] 61) nq).mono (show B ≤ w.heap.size by omega)
    exact ((b1.setCell (p := ⟨G, i, none⟩) (show B ≤ G by omega) _).drew).grown hg (Nat.le_of_lt h2.idx.lt) (fun k hk => by cases hk; exact Nat.le_refl _)
  simp only [key] at hdel
  clear h2 hidx hg HQ1
  go_region
  go_end0
  exact ⟨rfl, unhide HB, unhide H3, hn⟩
end Go.Proofs.Ybulkaiki.Net
