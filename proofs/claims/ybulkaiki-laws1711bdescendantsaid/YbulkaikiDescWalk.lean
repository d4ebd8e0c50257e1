/-
  The walk of 'LawS1711BDescendant'. Typed by hand.
-/
import Derived.Test.YbulkaikiDescPlain
import Derived.OpenShut
namespace Go.Proofs.Ybulkaiki.Desc
open Go.ChangeShapes Go.WideShapes Go.ChangeAt Go.RowKit
set_option linter.unusedVariables false

theorem hide {p : Prop} (h : p) : Hid p := h
theorem unhide {p : Prop} (h : Hid p) : p := h

/-- What the law lays as the first region's coordinate. -/
structure Good (n : Nat) (X0 : Int) : Prop where
  lo : 0 ≤ X0
  hi : X0 ≤ 4294967295
  far : 32 ≤ n → X0 = 0
  near : n < 32 → X0 * 2 ^ n ≤ 4294967295

theorem good_zero (n : Nat) : Good n 0 := ⟨by omega, by omega, fun _ => rfl, fun _ => by simp⟩
theorem good_near {n : Nat} {x : Int} (h : n < 32) (h0 : 0 ≤ x) (h1 : x ≤ 4294967295) : Good n (x / 2 ^ n) :=
  ⟨(start_bounds x n h0 h1).1, (start_bounds x n h0 h1).2.1, fun h' => by omega, fun _ => (start_bounds x n h0 h1).2.2⟩

theorem walk_long (a0 a1 a2 : Int) (a3 : Option Addr) (len3 cap3 : Nat) (w : World) (h : (1024 : Int) < (len3 : Int)) :
    Calls Yba.prog 4 #[.int .i32 a0, .int .u32 a1, .int .u32 a2, .slice a3 len3 cap3] w fun e w' => e = .returned (.bool true) ∧ Below w.heap.size w w' := by
  go_enter Yba.func4, Yba.ntmps4
  go_wp2
  go_ret
  exact ⟨rfl, Below.refl _ _⟩

/-- What holds at the loop's head, k rounds behind it: the first region lies in block B, the region reached in block B + 1. -/
def Rel (w : World) (n : Nat) (a0 : Int) (k : Nat) (wr : World) (X0 Y0 x y : Int) : Prop :=
  Good n X0 ∧ Good n Y0 ∧ Inv n X0 k x ∧ Inv n Y0 k y ∧ w.heap.size + 1 < wr.heap.size ∧ Below w.heap.size w wr ∧
      wr.cell? ⟨w.heap.size, 0, none⟩ = some (.int .i64 a0) ∧ wr.cell? ⟨w.heap.size, 1, none⟩ = some (.int .u32 X0) ∧ wr.cell? ⟨w.heap.size, 2, none⟩ = some (.int .u32 Y0) ∧
      wr.cell? ⟨w.heap.size + 1, 0, none⟩ = some (.int .i64 (a0 + k)) ∧ wr.cell? ⟨w.heap.size + 1, 1, none⟩ = some (.int .u32 x) ∧ wr.cell? ⟨w.heap.size + 1, 2, none⟩ = some (.int .u32 y) ∧
      wr.frozen? ⟨w.heap.size + 1, 0, none⟩ = false ∧ wr.frozen? ⟨w.heap.size + 1, 1, none⟩ = false ∧ wr.frozen? ⟨w.heap.size + 1, 2, none⟩ = false

theorem bel_alloc2 (W : World) (o1 o2 : Obj) : Below W.heap.size W ((W.alloc o1).alloc o2) :=
  ((Below.refl _ _).alloc (Nat.le_refl _) _).alloc (by simp) _

theorem contains_bel (rd rx ry qd qx qy : Int) (hr : -4294967296 ≤ rd) (hq : qd ≤ 4294967296) (hx0 : 0 ≤ qx) (hx : qx ≤ 4294967295) (hy0 : 0 ≤ qy) (hy : qy ≤ 4294967295) (w : World) :
    Calls Yba.prog 8 #[.agg #[.int .i64 rd, .int .u32 rx, .int .u32 ry], .agg #[.int .i64 qd, .int .u32 qx, .int .u32 qy]] w fun e w' => e = .returned (.bool (Region.cont rd rx ry qd qx qy)) ∧ Below w.heap.size w w' :=
  (Region.contains_any rd rx ry qd qx qy hr hq hx0 hx hy0 hy w).mono fun e w' ⟨h1, h2⟩ => ⟨h1, by subst h2; exact bel_alloc2 _ _ _⟩

theorem child_bel (rd rx ry i : Int) (hr : -4294967296 ≤ rd) (hq : rd ≤ 4294967296) (hx0 : 0 ≤ rx) (hx : rx ≤ 4294967295) (hy0 : 0 ≤ ry) (hy : ry ≤ 4294967295) (hi0 : 0 ≤ i) (hi : i ≤ 3) (w : World) :
    Calls Yba.prog 10 #[.agg #[.int .i64 rd, .int .u32 rx, .int .u32 ry], .int .i64 i] w fun e w' => e = .returned (.agg #[.int .i64 (rd + 1), .int .u32 (Region.cx rx i), .int .u32 (Region.cy ry i)]) ∧ Below w.heap.size w w' :=
  (Region.child_any rd rx ry i hr hq hx0 hx hy0 hy hi0 hi w).mono fun e w' ⟨h1, h2⟩ => ⟨h1, by subst h2; exact bel_alloc2 _ _ _⟩

theorem other (W : World) (p q : Addr) (v : Value) (h : p ≠ q) : (W.setCell p v).cell? q = W.cell? q := World.cell?_setCell_other _ _ _ _ h
theorem same (W : World) (p : Addr) (v u : Value) (h : W.cell? p = some u) : (W.setCell p v).cell? p = some v := World.cell?_setCell_same _ _ _ h

/-- Three stores into one block. -/
theorem store3 (W : World) (B : Nat) (v0 v1 v2 u0 u1 u2 : Value) (h0 : W.cell? ⟨B, 0, none⟩ = some u0) (h1 : W.cell? ⟨B, 1, none⟩ = some u1) (h2 : W.cell? ⟨B, 2, none⟩ = some u2) :
    (((W.setCell ⟨B, 0, none⟩ v0).setCell ⟨B, 1, none⟩ v1).setCell ⟨B, 2, none⟩ v2).cell? ⟨B, 0, none⟩ = some v0 ∧
    (((W.setCell ⟨B, 0, none⟩ v0).setCell ⟨B, 1, none⟩ v1).setCell ⟨B, 2, none⟩ v2).cell? ⟨B, 1, none⟩ = some v1 ∧
    (((W.setCell ⟨B, 0, none⟩ v0).setCell ⟨B, 1, none⟩ v1).setCell ⟨B, 2, none⟩ v2).cell? ⟨B, 2, none⟩ = some v2 ∧
    (∀ p : Addr, p.block ≠ B → (((W.setCell ⟨B, 0, none⟩ v0).setCell ⟨B, 1, none⟩ v1).setCell ⟨B, 2, none⟩ v2).cell? p = W.cell? p) ∧
    ∀ p : Addr, (((W.setCell ⟨B, 0, none⟩ v0).setCell ⟨B, 1, none⟩ v1).setCell ⟨B, 2, none⟩ v2).frozen? p = W.frozen? p := by
  have n01 : (⟨B, 0, none⟩ : Addr) ≠ ⟨B, 1, none⟩ := by simp
  have n02 : (⟨B, 0, none⟩ : Addr) ≠ ⟨B, 2, none⟩ := by simp
  have n12 : (⟨B, 1, none⟩ : Addr) ≠ ⟨B, 2, none⟩ := by simp
  refine ⟨?_, ?_, ?_, ?_, ?_⟩
  · rw [other _ _ _ _ n02.symm, other _ _ _ _ n01.symm]; exact same _ _ _ _ h0
  · rw [other _ _ _ _ n12.symm]; exact same _ _ _ u1 (by rw [other _ _ _ _ n01]; exact h1)
  · exact same _ _ _ u2 (by rw [other _ _ _ _ n12, other _ _ _ _ n02]; exact h2)
  · intro p hp
    have m0 : (⟨B, 0, none⟩ : Addr) ≠ p := fun e => hp (by rw [← e])
    have m1 : (⟨B, 1, none⟩ : Addr) ≠ p := fun e => hp (by rw [← e])
    have m2 : (⟨B, 2, none⟩ : Addr) ≠ p := fun e => hp (by rw [← e])
    rw [other _ _ _ _ m2, other _ _ _ _ m1, other _ _ _ _ m0]
  · intro p; simp

theorem rel_start (w : World) (n : Nat) (a0 X0 Y0 : Int) (hx : Good n X0) (hy : Good n Y0) :
    Rel w n a0 0 ((w.alloc (Obj.cells #[Value.int IntKind.i64 a0, Value.int IntKind.u32 X0, Value.int IntKind.u32 Y0] 24)).alloc (Obj.cells #[Value.int IntKind.i64 a0, Value.int IntKind.u32 X0, Value.int IntKind.u32 Y0] 24)) X0 Y0 X0 Y0 := by
  refine ⟨hx, hy, inv_start hx.lo hx.hi, inv_start hy.lo hy.hi, by simp, ((Below.refl _ _).alloc (Nat.le_refl _) _).alloc (by simp) _, ?_⟩
  have e : (w.alloc (Obj.cells #[Value.int IntKind.i64 a0, Value.int IntKind.u32 X0, Value.int IntKind.u32 Y0] 24)).heap.size = w.heap.size + 1 := by simp
  have k : ∀ o : Obj, ∀ i, ((w.alloc (Obj.cells #[Value.int IntKind.i64 a0, Value.int IntKind.u32 X0, Value.int IntKind.u32 Y0] 24)).alloc o).cell? ⟨w.heap.size, i, none⟩ = #[Value.int IntKind.i64 a0, Value.int IntKind.u32 X0, Value.int IntKind.u32 Y0][i]? := fun o i =>
    (World.cell?_alloc_lt _ _ _ (by simp)).trans (World.cell?_alloc_new _ _ _ _)
  refine ⟨(k _ 0).trans rfl, (k _ 1).trans rfl, (k _ 2).trans rfl, ?_, ?_, ?_, ?_, ?_, ?_⟩
  · rw [← e]; exact (World.cell?_alloc_new _ _ _ _).trans (by simp)
  · rw [← e]; exact (World.cell?_alloc_new _ _ _ _).trans rfl
  · rw [← e]; exact (World.cell?_alloc_new _ _ _ _).trans rfl
  · rw [← e]; exact World.frozen?_alloc_new _ _ _ _
  · rw [← e]; exact World.frozen?_alloc_new _ _ _ _
  · rw [← e]; exact World.frozen?_alloc_new _ _ _ _

theorem rel_step (w : World) (n : Nat) (a0 : Int) (k : Nat) (wr w1 : World) (X0 Y0 x y i : Int) (hk : k < n) (hi0 : 0 ≤ i) (hi : i ≤ 3) (h : Rel w n a0 k wr X0 Y0 x y) (hb : Below wr.heap.size wr w1) :
    Rel w n a0 (k + 1) (((w1.setCell ⟨w.heap.size + 1, 0, none⟩ (.int .i64 (a0 + k + 1))).setCell ⟨w.heap.size + 1, 1, none⟩ (.int .u32 (Region.cx x i))).setCell ⟨w.heap.size + 1, 2, none⟩ (.int .u32 (Region.cy y i))) X0 Y0 (Region.cx x i) (Region.cy y i) := by
  obtain ⟨gx, gy, hx, hy, hs, hbl, c0, c1, c2, q0, q1, q2, f0, f1, f2⟩ := h
  obtain ⟨s0, s1, s2, s3, s4⟩ := store3 w1 (w.heap.size + 1) (.int .i64 (a0 + k + 1)) (.int .u32 (Region.cx x i)) (.int .u32 (Region.cy y i)) _ _ _
    ((hb.cell (p := ⟨w.heap.size + 1, 0, none⟩) hs).trans q0) ((hb.cell (p := ⟨w.heap.size + 1, 1, none⟩) hs).trans q1) ((hb.cell (p := ⟨w.heap.size + 1, 2, none⟩) hs).trans q2)
  have hz := hb.size
  refine ⟨gx, gy, inv_step hk gx.near gx.lo (by omega) (by omega) hx, inv_step hk gy.near gy.lo (by omega) (by omega) hy, by simp; omega, ?_, ?_⟩
  · exact ((((hbl.trans (hb.mono (by omega))).setCell (by simp) _).setCell (by simp) _).setCell (by simp) _)
  · have hB : ∀ j, (⟨w.heap.size, j, none⟩ : Addr).block ≠ w.heap.size + 1 := fun j => by simp
    have hB' : ∀ j, (⟨w.heap.size, j, none⟩ : Addr).block < wr.heap.size := fun j => by show w.heap.size < _; omega
    refine ⟨?_, ?_, ?_, s0.trans ?_, s1, s2, ?_, ?_, ?_⟩
    · exact (s3 _ (hB 0)).trans ((hb.cell (hB' 0)).trans c0)
    · exact (s3 _ (hB 1)).trans ((hb.cell (hB' 1)).trans c1)
    · exact (s3 _ (hB 2)).trans ((hb.cell (hB' 2)).trans c2)
    · rw [show a0 + (k : Int) + 1 = a0 + ((k + 1 : Nat) : Int) by omega]
    · exact (s4 _).trans ((hb.frozen (p := ⟨w.heap.size + 1, 0, none⟩) hs).trans f0)
    · exact (s4 _).trans ((hb.frozen (p := ⟨w.heap.size + 1, 1, none⟩) hs).trans f1)
    · exact (s4 _).trans ((hb.frozen (p := ⟨w.heap.size + 1, 2, none⟩) hs).trans f2)

/-- The two regions' cells behind a call that turned nothing old. -/
theorem keep6 {B : Nat} {wr w1 : World} {v0 v1 v2 u0 u1 u2 : Value} (hs : B + 1 < wr.heap.size) (hb : Below wr.heap.size wr w1)
    (c0 : wr.cell? ⟨B, 0, none⟩ = some v0) (c1 : wr.cell? ⟨B, 1, none⟩ = some v1) (c2 : wr.cell? ⟨B, 2, none⟩ = some v2)
    (q0 : wr.cell? ⟨B + 1, 0, none⟩ = some u0) (q1 : wr.cell? ⟨B + 1, 1, none⟩ = some u1) (q2 : wr.cell? ⟨B + 1, 2, none⟩ = some u2) :
    w1.cell? ⟨B, 0, none⟩ = some v0 ∧ w1.cell? ⟨B, 1, none⟩ = some v1 ∧ w1.cell? ⟨B, 2, none⟩ = some v2 ∧
    w1.cell? ⟨B + 1, 0, none⟩ = some u0 ∧ w1.cell? ⟨B + 1, 1, none⟩ = some u1 ∧ w1.cell? ⟨B + 1, 2, none⟩ = some u2 := by
  have hB' : ∀ j, (⟨B, j, none⟩ : Addr).block < wr.heap.size := fun j => by show B < _; omega
  have hQ' : ∀ j, (⟨B + 1, j, none⟩ : Addr).block < wr.heap.size := fun j => hs
  exact ⟨(hb.cell (hB' 0)).trans c0, (hb.cell (hB' 1)).trans c1, (hb.cell (hB' 2)).trans c2, (hb.cell (hQ' 0)).trans q0, (hb.cell (hQ' 1)).trans q1, (hb.cell (hQ' 2)).trans q2⟩

set_option maxHeartbeats 2000000 in
theorem walk_some (a0 a1 a2 : Int) (b off : Nat) (len3 cap3 : Nat) (z : Nat → Int) (w : World) (hl : len3 ≤ 1024) (hz : ∀ j, 0 ≤ z j ∧ z j ≤ 255) (hc : ∀ j, j < len3 → w.cell? ⟨b, off + j, none⟩ = some (.int .u8 (z j))) (hb : b < w.heap.size)
    (b00 : -2147483648 ≤ a0) (b01 : a0 ≤ 2147483647) (b10 : 0 ≤ a1) (b11 : a1 ≤ 4294967295) (b20 : 0 ≤ a2) (b21 : a2 ≤ 4294967295) :
    Calls Yba.prog 4 #[.int .i32 a0, .int .u32 a1, .int .u32 a2, .slice (some ⟨b, off, none⟩) len3 cap3] w fun e w' => e = .returned (.bool true) ∧ Below w.heap.size w w' := by
  have hl0 : decide ((1024 : Int) < (len3 : Int)) = false := by simp; omega
  have HC := hide hc
  have HZ := hide hz
  clear hc hz
  by_cases h32 : (32 : Int) ≤ (len3 : Int)
  · have h32b : decide ((32 : Int) ≤ (len3 : Int)) = true := by simpa using h32
    go_enter Yba.func4, Yba.ntmps4
    go_wp2_with fail
    go_loopw [41] (fun i wr => ∃ (k : Nat) (X0 Y0 x y : Int), k ≤ len3 ∧ i = .int .i64 k ∧ Rel w len3 a0 k wr X0 Y0 x y) (fun i _ => len3 - (intOf i).toNat)
    case atStart => exact ⟨0, 0, 0, 0, 0, Nat.zero_le _, rfl, rel_start w len3 a0 0 0 (good_zero _) (good_zero _)⟩
    case round =>
      obtain ⟨k, X0, Y0, x, y, hk, rfl, hrel⟩ := hrel
      have HR := hide hrel
      obtain ⟨gx, gy, hx, hy, hs, hbl, c0, c1, c2, q0, q1, q2, f0, f1, f2⟩ := hrel
      obtain ⟨x0, x1, x2⟩ := id hx
      obtain ⟨y0, y1, y2⟩ := id hy
      obtain ⟨gx0, gx1, gx2, gx3⟩ := id gx
      obtain ⟨gy0, gy1, gy2, gy3⟩ := id gy
      clear x2 y2 gx2 gx3 gy2 gy3
      have HX := hide hx
      have HY := hide hy
      have HGX := hide gx
      have HGY := hide gy
      have HB := hide hbl
      clear hx hy hbl gx gy
      by_cases hlt : k < len3
      · have hck : wr.cell? ⟨b, off + k, none⟩ = some (.int .u8 (z k)) := by
          rw [(unhide HB).cell (p := ⟨b, off + k, none⟩) hb]; exact unhide HC k hlt
        obtain ⟨z0, z1⟩ := unhide HZ k
        go_wp2_with fail
        refine (child_bel _ _ _ _ (by omega) (by omega) (by omega) (by omega) (by omega) (by omega) (by omega) (by omega) _).mono ?_
        rintro e w1 ⟨rfl, hb1⟩
        obtain ⟨d0, d1, d2, p0, p1, p2⟩ := keep6 hs hb1 c0 c1 c2 q0 q1 q2
        have g0 := (hb1.frozen (p := ⟨w.heap.size + 1, 0, none⟩) hs).trans f0
        have g1 := (hb1.frozen (p := ⟨w.heap.size + 1, 1, none⟩) hs).trans f1
        have g2 := (hb1.frozen (p := ⟨w.heap.size + 1, 2, none⟩) hs).trans f2
        have HB1 := hide hb1
        clear hb1
        go_wp2_with fail
        exact ⟨⟨k + 1, X0, Y0, _, _, by omega, by go_num, rel_step w len3 a0 k wr w1 X0 Y0 x y (z k % 4) hlt (by omega) (by omega) (unhide HR) (unhide HB1)⟩, by simp [intOf]; omega⟩
      · have hkl : k = len3 := by omega
        have hyes : Region.cont a0 X0 Y0 (a0 + k) x y = true := by
          have hX := unhide HX
          have hY := unhide HY
          subst hkl
          exact yes_after (unhide HGX).far (unhide HGY).far hX hY
        have HKL := hide hkl
        clear HX HY HGX HGY hkl
        go_wp2_with fail
        refine (contains_bel _ _ _ _ _ _ (by omega) (by omega) (by omega) (by omega) (by omega) (by omega) _).mono ?_
        rintro e w1 ⟨rfl, hb1⟩
        obtain ⟨d0, d1, d2, p0, p1, p2⟩ := keep6 hs hb1 c0 c1 c2 q0 q1 q2
        have HB1 := hide hb1
        clear hb1
        by_cases hn : (0 : Int) < (len3 : Int)
        · have hno : Region.cont (a0 + k) x y a0 X0 Y0 = false := no_after (by have := unhide HKL; omega)
          go_wp2_with fail
          refine (contains_bel _ _ _ _ _ _ (by omega) (by omega) (by omega) (by omega) (by omega) (by omega) _).mono ?_
          rintro e w2 ⟨rfl, hb2⟩
          have HB2 := hide hb2
          clear hb2
          go_wp2_with fail
          go_ret
          have hz := (unhide HB1).size
          exact ⟨rfl, ((unhide HB).trans ((unhide HB1).mono (by omega))).trans ((unhide HB2).mono (by omega))⟩
        · have hn' : decide ((0 : Int) < (len3 : Int)) = false := by simpa using hn
          go_wp2_with fail
          all_goals
            go_ret
            exact ⟨rfl, (unhide HB).trans ((unhide HB1).mono (by omega))⟩

  · have h32b : decide ((32 : Int) ≤ (len3 : Int)) = false := by simpa using h32
    have GX : Hid (Good len3 (a1 / 2 ^ len3)) := good_near (by omega) b10 b11
    have GY : Hid (Good len3 (a2 / 2 ^ len3)) := good_near (by omega) b20 b21
    go_enter Yba.func4, Yba.ntmps4
    go_wp2_with fail
    go_loopw [41] (fun i wr => ∃ (k : Nat) (X0 Y0 x y : Int), k ≤ len3 ∧ i = .int .i64 k ∧ Rel w len3 a0 k wr X0 Y0 x y) (fun i _ => len3 - (intOf i).toNat)
    case atStart => exact ⟨0, _, _, _, _, Nat.zero_le _, rfl, rel_start w len3 a0 _ _ (unhide GX) (unhide GY)⟩
    case round =>
      obtain ⟨k, X0, Y0, x, y, hk, rfl, hrel⟩ := hrel
      have HR := hide hrel
      obtain ⟨gx, gy, hx, hy, hs, hbl, c0, c1, c2, q0, q1, q2, f0, f1, f2⟩ := hrel
      obtain ⟨x0, x1, x2⟩ := id hx
      obtain ⟨y0, y1, y2⟩ := id hy
      obtain ⟨gx0, gx1, gx2, gx3⟩ := id gx
      obtain ⟨gy0, gy1, gy2, gy3⟩ := id gy
      clear x2 y2 gx2 gx3 gy2 gy3
      have HX := hide hx
      have HY := hide hy
      have HGX := hide gx
      have HGY := hide gy
      have HB := hide hbl
      clear hx hy hbl gx gy
      by_cases hlt : k < len3
      · have hck : wr.cell? ⟨b, off + k, none⟩ = some (.int .u8 (z k)) := by
          rw [(unhide HB).cell (p := ⟨b, off + k, none⟩) hb]; exact unhide HC k hlt
        obtain ⟨z0, z1⟩ := unhide HZ k
        go_wp2_with fail
        refine (child_bel _ _ _ _ (by omega) (by omega) (by omega) (by omega) (by omega) (by omega) (by omega) (by omega) _).mono ?_
        rintro e w1 ⟨rfl, hb1⟩
        obtain ⟨d0, d1, d2, p0, p1, p2⟩ := keep6 hs hb1 c0 c1 c2 q0 q1 q2
        have g0 := (hb1.frozen (p := ⟨w.heap.size + 1, 0, none⟩) hs).trans f0
        have g1 := (hb1.frozen (p := ⟨w.heap.size + 1, 1, none⟩) hs).trans f1
        have g2 := (hb1.frozen (p := ⟨w.heap.size + 1, 2, none⟩) hs).trans f2
        have HB1 := hide hb1
        clear hb1
        go_wp2_with fail
        exact ⟨⟨k + 1, X0, Y0, _, _, by omega, by go_num, rel_step w len3 a0 k wr w1 X0 Y0 x y (z k % 4) hlt (by omega) (by omega) (unhide HR) (unhide HB1)⟩, by simp [intOf]; omega⟩
      · have hkl : k = len3 := by omega
        have hyes : Region.cont a0 X0 Y0 (a0 + k) x y = true := by
          have hX := unhide HX
          have hY := unhide HY
          subst hkl
          exact yes_after (unhide HGX).far (unhide HGY).far hX hY
        have HKL := hide hkl
        clear HX HY HGX HGY hkl
        go_wp2_with fail
        refine (contains_bel _ _ _ _ _ _ (by omega) (by omega) (by omega) (by omega) (by omega) (by omega) _).mono ?_
        rintro e w1 ⟨rfl, hb1⟩
        obtain ⟨d0, d1, d2, p0, p1, p2⟩ := keep6 hs hb1 c0 c1 c2 q0 q1 q2
        have HB1 := hide hb1
        clear hb1
        by_cases hn : (0 : Int) < (len3 : Int)
        · have hno : Region.cont (a0 + k) x y a0 X0 Y0 = false := no_after (by have := unhide HKL; omega)
          go_wp2_with fail
          refine (contains_bel _ _ _ _ _ _ (by omega) (by omega) (by omega) (by omega) (by omega) (by omega) _).mono ?_
          rintro e w2 ⟨rfl, hb2⟩
          have HB2 := hide hb2
          clear hb2
          go_wp2_with fail
          go_ret
          have hz := (unhide HB1).size
          exact ⟨rfl, ((unhide HB).trans ((unhide HB1).mono (by omega))).trans ((unhide HB2).mono (by omega))⟩
        · have hn' : decide ((0 : Int) < (len3 : Int)) = false := by simpa using hn
          go_wp2_with fail
          all_goals
            go_ret
            exact ⟨rfl, (unhide HB).trans ((unhide HB1).mono (by omega))⟩


set_option maxHeartbeats 2000000 in
theorem walk_none (a0 a1 a2 : Int) (a3 : Option Addr) (len3 cap3 : Nat) (w : World) (hl : len3 ≤ 1024) (hz : len3 = 0)
    (b00 : -2147483648 ≤ a0) (b01 : a0 ≤ 2147483647) (b10 : 0 ≤ a1) (b11 : a1 ≤ 4294967295) (b20 : 0 ≤ a2) (b21 : a2 ≤ 4294967295) :
    Calls Yba.prog 4 #[.int .i32 a0, .int .u32 a1, .int .u32 a2, .slice a3 len3 cap3] w fun e w' => e = .returned (.bool true) ∧ Below w.heap.size w w' := by
  have hl0 : decide ((1024 : Int) < (len3 : Int)) = false := by simp; omega
  have hz' : len3 ≤ 0 := by omega
  clear hz
  by_cases h32 : (32 : Int) ≤ (len3 : Int)
  · omega
  · have h32b : decide ((32 : Int) ≤ (len3 : Int)) = false := by simpa using h32
    have GX : Hid (Good len3 (a1 / 2 ^ len3)) := good_near (by omega) b10 b11
    have GY : Hid (Good len3 (a2 / 2 ^ len3)) := good_near (by omega) b20 b21
    go_enter Yba.func4, Yba.ntmps4
    go_wp2_with fail
    go_loopw [41] (fun i wr => ∃ (k : Nat) (X0 Y0 x y : Int), k ≤ len3 ∧ i = .int .i64 k ∧ Rel w len3 a0 k wr X0 Y0 x y) (fun i _ => len3 - (intOf i).toNat)
    case atStart => exact ⟨0, _, _, _, _, Nat.zero_le _, rfl, rel_start w len3 a0 _ _ (unhide GX) (unhide GY)⟩
    case round =>
      obtain ⟨k, X0, Y0, x, y, hk, rfl, hrel⟩ := hrel
      have HR := hide hrel
      obtain ⟨gx, gy, hx, hy, hs, hbl, c0, c1, c2, q0, q1, q2, f0, f1, f2⟩ := hrel
      obtain ⟨x0, x1, x2⟩ := id hx
      obtain ⟨y0, y1, y2⟩ := id hy
      obtain ⟨gx0, gx1, gx2, gx3⟩ := id gx
      obtain ⟨gy0, gy1, gy2, gy3⟩ := id gy
      clear x2 y2 gx2 gx3 gy2 gy3
      have HX := hide hx
      have HY := hide hy
      have HGX := hide gx
      have HGY := hide gy
      have HB := hide hbl
      clear hx hy hbl gx gy
      by_cases hlt : k < len3
      · omega
      · have hkl : k = len3 := by omega
        have hyes : Region.cont a0 X0 Y0 (a0 + k) x y = true := by
          have hX := unhide HX
          have hY := unhide HY
          subst hkl
          exact yes_after (unhide HGX).far (unhide HGY).far hX hY
        have HKL := hide hkl
        clear HX HY HGX HGY hkl
        go_wp2_with fail
        refine (contains_bel _ _ _ _ _ _ (by omega) (by omega) (by omega) (by omega) (by omega) (by omega) _).mono ?_
        rintro e w1 ⟨rfl, hb1⟩
        obtain ⟨d0, d1, d2, p0, p1, p2⟩ := keep6 hs hb1 c0 c1 c2 q0 q1 q2
        have HB1 := hide hb1
        clear hb1
        by_cases hn : (0 : Int) < (len3 : Int)
        · omega
        · have hn' : decide ((0 : Int) < (len3 : Int)) = false := by simpa using hn
          go_wp2_with fail
          all_goals
            go_ret
            exact ⟨rfl, (unhide HB).trans ((unhide HB1).mono (by omega))⟩

end Go.Proofs.Ybulkaiki.Desc
