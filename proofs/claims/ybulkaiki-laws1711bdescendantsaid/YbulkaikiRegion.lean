/-
  Contracts of the three functions that the laws on regions go through: (region).contains (8), zzs1711bmodel (9), (region).child (10). Typed by hand.
-/
import Derived.Test.YbulkaikiRows
import Derived.WalkKit
import Derived.WalkSpells
import Derived.ProofKit
namespace Go.Proofs.Ybulkaiki.Region
open Go.ChangeShapes Go.WideShapes Go.ChangeAt Go.RowKit
set_option linter.unusedVariables false

/-- What 'r.contains(q)' answers, on plain numbers. -/
def cont (rd rx ry qd qx qy : Int) : Bool :=
  !decide (qd < rd) && (qx / 2 ^ min (qd - rd).toNat 32 == rx) && (qy / 2 ^ min (qd - rd).toNat 32 == ry)

theorem cont_lt {rd rx ry qd qx qy : Int} (h : qd < rd) : cont rd rx ry qd qx qy = false := by simp [cont, h]
theorem cont_yes {rd rx ry qd qx qy : Int} (h : rd ≤ qd) (hx : qx / 2 ^ min (qd - rd).toNat 32 = rx) :
    cont rd rx ry qd qx qy = (qy / 2 ^ min (qd - rd).toNat 32 == ry) := by
  have : ¬ qd < rd := by omega
  simp [cont, this, hx]
theorem cont_no {rd rx ry qd qx qy : Int} (hx : ¬ qx / 2 ^ min (qd - rd).toNat 32 = rx) :
    cont rd rx ry qd qx qy = false := by
  simp [cont, hx]

/-- A region as a block of three cells. -/
def reg (d x y : Int) : Value := .agg #[.int .i64 d, .int .u32 x, .int .u32 y]

theorem ret_bool {a b : Bool} (h : a = b) : Ending.returned (.bool a) = .returned (.bool b) := by rw [h]

set_option maxHeartbeats 400000 in
theorem contains_any (rd rx ry qd qx qy : Int) (hr : -4294967296 ≤ rd) (hq : qd ≤ 4294967296) (hx0 : 0 ≤ qx) (hx : qx ≤ 4294967295) (hy0 : 0 ≤ qy) (hy : qy ≤ 4294967295) (w : World) :
    Calls Yba.prog 8 #[.agg #[.int .i64 rd, .int .u32 rx, .int .u32 ry], .agg #[.int .i64 qd, .int .u32 qx, .int .u32 qy]] w fun e w' => e = .returned (.bool (cont rd rx ry qd qx qy)) ∧
      w' = (w.alloc (.cells #[.int .i64 rd, .int .u32 rx, .int .u32 ry] 24)).alloc (.cells #[.int .i64 qd, .int .u32 qx, .int .u32 qy] 24) := by
  by_cases h : qd < rd
  · go_enter Yba.func8, Yba.ntmps8
    go_wp2
    go_ret
    exact ⟨ret_bool (cont_lt h).symm, rfl⟩
  · have h' : rd ≤ qd := by omega
    clear h
    go_enter Yba.func8, Yba.ntmps8
    go_wp2
    · go_ret
      exact ⟨ret_bool (cont_yes h' ‹_›).symm, rfl⟩
    · go_ret
      exact ⟨ret_bool (cont_no ‹_›).symm, rfl⟩

/-- The model's loop halves as often as 'contains' shifts. -/
theorem half (x : Int) (k : Nat) : x / 2 ^ k / 2 = x / 2 ^ (k + 1) := by
  rw [Int.ediv_ediv_of_nonneg (Int.le_of_lt (Int.pow_pos (by decide))), Int.pow_succ]

theorem cap32 (x : Int) (k : Nat) (h0 : 0 ≤ x) (h : x ≤ 4294967295) : x / 2 ^ min k 32 = x / 2 ^ k := by
  by_cases hk : k ≤ 32
  · rw [Nat.min_eq_left hk]
  · rw [Nat.min_eq_right (by omega)]
    have e1 : x / 2 ^ 32 = 0 := Int.ediv_eq_zero_of_lt h0 (by omega)
    have e2 : x / 2 ^ k = 0 := by
      refine Int.ediv_eq_zero_of_lt h0 ?_
      have h2 : (4294967296 : Int) ≤ 2 ^ k := by
        have h3 : ((2 ^ 32 : Nat) : Int) ≤ ((2 ^ k : Nat) : Int) := Int.ofNat_le.2 (Nat.pow_le_pow_right (by decide) (by omega))
        simpa using h3
      omega
    rw [e1, e2]

set_option maxHeartbeats 400000 in
theorem model_any (rd rx ry qd qx qy : Int) (h0 : 0 ≤ rd) (h1 : rd ≤ 63) (h2 : 0 ≤ qd) (h3 : qd ≤ 63) (hx0 : 0 ≤ qx) (hx : qx ≤ 4294967295) (hy0 : 0 ≤ qy) (hy : qy ≤ 4294967295) (w : World) :
    Calls Yba.prog 9 #[.int .i64 rd, .int .i64 qd, .int .u32 rx, .int .u32 ry, .int .u32 qx, .int .u32 qy] w fun e w' => e = .returned (.bool (cont rd rx ry qd qx qy)) ∧ w' = w := by
  by_cases h : qd < rd
  · go_enter Yba.func9, Yba.ntmps9
    go_wp2
    go_ret
    exact ⟨ret_bool (cont_lt h).symm, rfl⟩
  · have h' : rd ≤ qd := by omega
    clear h
    go_enter Yba.func9, Yba.ntmps9
    go_wp2
    go_loop [13, 14, 15] (fun x y i => ∃ k : Nat, (k : Int) ≤ qd - rd ∧ x = .int .u32 (qx / 2 ^ k) ∧ y = .int .u32 (qy / 2 ^ k) ∧ i = .int .i64 k) (fun _ _ i => (qd - rd).toNat - (intOf i).toNat)
    case atStart => exact ⟨0, by omega, by simp, by simp, rfl⟩
    case round =>
      obtain ⟨k, hk, rfl, rfl, rfl⟩ := hrel
      have b1 : 0 ≤ qx / 2 ^ k := Int.ediv_nonneg hx0 (Int.le_of_lt (Int.pow_pos (by decide)))
      have b2 : qx / 2 ^ k ≤ 4294967295 := Int.le_trans (Int.ediv_le_self _ hx0) hx
      have b3 : 0 ≤ qy / 2 ^ k := Int.ediv_nonneg hy0 (Int.le_of_lt (Int.pow_pos (by decide)))
      have b4 : qy / 2 ^ k ≤ 4294967295 := Int.le_trans (Int.ediv_le_self _ hy0) hy
      by_cases hlt : (k : Int) < qd - rd
      · go_wp2
        exact ⟨⟨k + 1, by omega, by rw [half], by rw [half], by go_num⟩, by simp [intOf]; omega⟩
      · have HK : Hid (k = (qd - rd).toNat) := (by omega : k = (qd - rd).toNat)
        have HX : Hid (qx / 2 ^ min (qd - rd).toNat 32 = qx / 2 ^ k) := by show _ = _; rw [HK.out]; exact cap32 _ _ hx0 hx
        have HY : Hid (qy / 2 ^ min (qd - rd).toNat 32 = qy / 2 ^ k) := by show _ = _; rw [HK.out]; exact cap32 _ _ hy0 hy
        go_wp2
        · go_ret
          refine ⟨ret_bool ?_, rfl⟩
          rw [cont_yes h' (by rw [HX.out]; assumption), HY.out]
        · go_ret
          refine ⟨ret_bool ?_, rfl⟩
          rw [cont_no (by rw [HX.out]; assumption)]

/-- A child's coordinates. -/
def cx (x i : Int) : Int := (2 * x + i % 2) % 4294967296
def cy (y i : Int) : Int := (2 * y + i / 2) % 4294967296

theorem and_one (i : Int) (h0 : 0 ≤ i) (h : i ≤ 3) : bits BinOp.and IntKind.i64 i 1 = i % 2 := by
  rcases (show i = 0 ∨ i = 1 ∨ i = 2 ∨ i = 3 by omega) with rfl | rfl | rfl | rfl <;> decide +kernel

set_option maxHeartbeats 400000 in
theorem child_any (rd rx ry i : Int) (hr : -4294967296 ≤ rd) (hq : rd ≤ 4294967296) (hx0 : 0 ≤ rx) (hx : rx ≤ 4294967295) (hy0 : 0 ≤ ry) (hy : ry ≤ 4294967295) (hi0 : 0 ≤ i) (hi : i ≤ 3) (w : World) :
    Calls Yba.prog 10 #[.agg #[.int .i64 rd, .int .u32 rx, .int .u32 ry], .int .i64 i] w fun e w' => e = .returned (.agg #[.int .i64 (rd + 1), .int .u32 (cx rx i), .int .u32 (cy ry i)]) ∧
      w' = (w.alloc (.cells #[.int .i64 rd, .int .u32 rx, .int .u32 ry] 24)).alloc (.cells #[.int .i64 (rd + 1), .int .u32 (cx rx i), .int .u32 (cy ry i)] 24) := by
  have HA : Hid (cx rx i = (2 * rx + bits BinOp.and IntKind.i64 i 1) % 4294967296) := by show _ = _; rw [and_one i hi0 hi]; rfl
  have HB : Hid (cy ry i = 2 * ry % 4294967296 + i / 2) := by show _ = _; unfold cy; omega
  go_enter Yba.func10, Yba.ntmps10
  go_wp2
  rw [HA.out, HB.out]
  exact bodyPost_ret (v := .agg #[.int .i64 (rd + 1), .int .u32 ((2 * rx + bits BinOp.and IntKind.i64 i 1) % 4294967296), .int .u32 (2 * ry % 4294967296 + i / 2)]) (by simp [results, Yba.results10, go_sem]) rfl ⟨rfl, rfl⟩
end Go.Proofs.Ybulkaiki.Region
