/-
  The plain laws of 'LawS1711BDescendant': no Go text in sight. Typed by hand.
-/
import Derived.Test.YbulkaikiRegion
namespace Go.Proofs.Ybulkaiki.Desc
open Go.Proofs.Ybulkaiki

/-- What holds of a coordinate after k of n rounds: X0 is the coordinate of the region that the rounds began at. -/
def Inv (n : Nat) (X0 : Int) (k : Nat) (x : Int) : Prop := 0 ≤ x ∧ x ≤ 4294967295 ∧ (n < 32 → x / 2 ^ k = X0)

theorem inv_start {n : Nat} {X0 : Int} (h0 : 0 ≤ X0) (h : X0 ≤ 4294967295) : Inv n X0 0 X0 := ⟨h0, h, fun _ => by simp⟩

/-- The next round, at whatever last bit. -/
theorem inv_step {n k : Nat} {X0 x b : Int} (hk : k < n) (hX : n < 32 → X0 * 2 ^ n ≤ 4294967295) (hX0 : 0 ≤ X0) (hb0 : 0 ≤ b) (hb : b ≤ 1) (h : Inv n X0 k x) : Inv n X0 (k + 1) ((2 * x + b) % 4294967296) := by
  obtain ⟨h0, h1, h2⟩ := h
  refine ⟨by omega, by omega, fun hn => ?_⟩
  have e := h2 hn
  have hp : (0 : Int) < 2 ^ k := Int.pow_pos (by decide)
  have hx : x < (X0 + 1) * 2 ^ k := by
    have := Int.lt_ediv_add_one_mul_self x hp
    rwa [e] at this
  -- (X0 + 1) * 2 ^ (k + 1) ≤ 2 ^ 32
  have hsplit : (2 : Int) ^ n = 2 ^ (k + 1) * 2 ^ (n - (k + 1)) := by rw [← Int.pow_add]; congr 1; omega
  have hsp32 : (4294967296 : Int) = 2 ^ n * 2 ^ (32 - n) := by rw [← Int.pow_add, show n + (32 - n) = 32 by omega]; rfl
  have hX1 : (X0 + 1) * 2 ^ n ≤ 4294967296 := by
    have hq : 0 < (2 : Int) ^ n := Int.pow_pos (by decide)
    have hlt : X0 * 2 ^ n < 2 ^ (32 - n) * 2 ^ n := by
      have := hX hn
      rw [Int.mul_comm (2 ^ (32 - n)), ← hsp32]; omega
    have hlt2 : X0 < 2 ^ (32 - n) := Int.lt_of_mul_lt_mul_right hlt (Int.le_of_lt hq)
    rw [hsp32, Int.mul_comm (2 ^ n)]
    exact Int.mul_le_mul_of_nonneg_right (by omega) (Int.le_of_lt hq)
  have hk1 : (X0 + 1) * 2 ^ (k + 1) ≤ 4294967296 := by
    have hr : (1 : Int) ≤ 2 ^ (n - (k + 1)) := by
      have : (0 : Int) < 2 ^ (n - (k + 1)) := Int.pow_pos (by decide)
      omega
    have hm : 0 ≤ (X0 + 1) * 2 ^ (k + 1) := Int.mul_nonneg (by omega) (Int.le_of_lt (Int.pow_pos (by decide)))
    have := Int.mul_le_mul_of_nonneg_left hr hm
    rw [Int.mul_one, Int.mul_assoc, ← hsplit] at this
    omega
  have hlt : 2 * x + b < 4294967296 := by
    have e2 : (X0 + 1) * 2 ^ (k + 1) = 2 * ((X0 + 1) * 2 ^ k) := by rw [Int.pow_succ]; rw [← Int.mul_assoc]; omega
    omega
  rw [Int.emod_eq_of_lt (by omega) hlt, show (2 : Int) ^ (k + 1) = 2 * 2 ^ k from by rw [Int.pow_succ, Int.mul_comm], ← Int.ediv_ediv_of_nonneg (show (0 : Int) ≤ 2 by decide)]
  rw [show (2 * x + b) / 2 = x by omega]
  exact e

theorem inv_end {n : Nat} {X0 x : Int} (hX : 32 ≤ n → X0 = 0) (h : Inv n X0 n x) : x / 2 ^ min n 32 = X0 := by
  obtain ⟨h0, h1, h2⟩ := h
  by_cases hn : n < 32
  · rw [Nat.min_eq_left (by omega)]; exact h2 hn
  · rw [Nat.min_eq_right (by omega), hX (by omega)]
    exact Int.ediv_eq_zero_of_lt h0 (by omega)

theorem yes_after {n : Nat} {d X0 Y0 x y : Int} (hX : 32 ≤ n → X0 = 0) (hY : 32 ≤ n → Y0 = 0) (hx : Inv n X0 n x) (hy : Inv n Y0 n y) : Region.cont d X0 Y0 (d + n) x y = true := by
  have e : (d + n - d).toNat = n := by omega
  have h : ¬ d + (n : Int) < d := by omega
  unfold Region.cont
  rw [e, inv_end hX hx, inv_end hY hy]
  simp [h]

theorem no_after {n : Nat} {d X0 Y0 x y : Int} (hn : 0 < n) : Region.cont (d + n) x y d X0 Y0 = false := Region.cont_lt (by omega)

theorem start_bounds (x : Int) (n : Nat) (h0 : 0 ≤ x) (h : x ≤ 4294967295) : 0 ≤ x / 2 ^ n ∧ x / 2 ^ n ≤ 4294967295 ∧ x / 2 ^ n * 2 ^ n ≤ 4294967295 :=
  ⟨Int.ediv_nonneg h0 (Int.le_of_lt (Int.pow_pos (by decide))), Int.le_trans (Int.ediv_le_self _ h0) h, Int.le_trans (Int.ediv_mul_le x (Int.ne_of_gt (Int.pow_pos (by decide)))) h⟩

end Go.Proofs.Ybulkaiki.Desc
