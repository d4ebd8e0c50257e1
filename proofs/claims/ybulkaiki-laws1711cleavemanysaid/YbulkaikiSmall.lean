/-
  Contracts of the small functions of the laws on 'Leave': AddrPortFrom (16), zzs1711caddr (14), zzs1711clast (12), zzs1711ccontains (15). Typed by hand.
-/
import Derived.Test.YbulkaikiPorts
import Derived.OpenShut
namespace Go.Proofs.Ybulkaiki.Net
open Go.ChangeShapes Go.WideShapes Go.ChangeAt Go.RowKit
set_option linter.unusedVariables false

theorem hide {p : Prop} (h : p) : Hid p := h
theorem unhide {p : Prop} (h : Hid p) : p := h
theorem ret_int {k : IntKind} {a b : Int} (h : a = b) : Ending.returned (.int k a) = .returned (.int k b) := by rw [h]
theorem ret_bool {a b : Bool} (h : a = b) : Ending.returned (.bool a) = .returned (.bool b) := by rw [h]

/-- The last place below n at which z holds p; -1 where there is none. -/
def last (z : Nat → Int) : Nat → Int → Int
  | 0, _ => -1
  | k + 1, p => if z k = p then (k : Int) else last z k p

/-- Does z hold p below n? -/
def mem (z : Nat → Int) : Nat → Int → Bool
  | 0, _ => false
  | k + 1, p => mem z k p || (z k == p)

theorem last_yes {z : Nat → Int} {k : Nat} {p : Int} (h : z k = p) : last z (k + 1) p = k := by simp [last, h]
theorem last_no {z : Nat → Int} {k : Nat} {p : Int} (h : ¬ z k = p) : last z (k + 1) p = last z k p := by simp [last, h]
theorem last_bounds (z : Nat → Int) (p : Int) : ∀ n, -1 ≤ last z n p ∧ last z n p < n
  | 0 => by simp [last]
  | k + 1 => by
    have := last_bounds z p k
    unfold last
    split <;> omega

theorem mem_of_lt {z : Nat → Int} {p : Int} {k : Nat} (he : z k = p) : ∀ {n : Nat}, k < n → mem z n p = true
  | 0, h => by omega
  | n + 1, h => by
    by_cases hk : k = n
    · subst hk; simp [mem, he]
    · simp [mem, mem_of_lt he (show k < n by omega)]

/-- A slice of ports that can be read. -/
def Row (w : World) (a : Option Addr) (len : Nat) (z : Nat → Int) : Prop :=
  len = 0 ∨ ∃ b off, a = some ⟨b, off, none⟩ ∧ ∀ j, j < len → w.cell? ⟨b, off + j, none⟩ = some (.int .u16 (z j))

theorem Row.kept {w w' : World} {a : Option Addr} {len : Nat} {z : Nat → Int} (h : Row w a len z) (hk : ∀ p v, w.cell? p = some v → w'.cell? p = some v) : Row w' a len z := by
  rcases h with h | ⟨b, off, ha, hc⟩
  · exact Or.inl h
  · exact Or.inr ⟨b, off, ha, fun j hj => hk _ _ (hc j hj)⟩

set_option maxHeartbeats 400000 in
theorem last_some (b off len cap : Nat) (z : Nat → Int) (p : Int) (w : World) (hl : len ≤ 1024) (hc : ∀ j, j < len → w.cell? ⟨b, off + j, none⟩ = some (.int .u16 (z j))) :
    Calls Yba.prog 12 #[.slice (some ⟨b, off, none⟩) len cap, .int .u16 p] w fun e w' => e = .returned (.int .i64 (last z len p)) ∧ w' = w := by
  have HC := hide hc
  clear hc
  go_enter Yba.func12, Yba.ntmps12
  go_wp2_with fail
  go_loop [5, 10] (fun r i => ∃ k : Nat, k ≤ len ∧ i = .int .i64 k ∧ r = .int .i64 (last z k p)) (fun _ i => len - (intOf i).toNat)
  case atStart => exact ⟨0, Nat.zero_le _, rfl, rfl⟩
  case round =>
    obtain ⟨k, hk, rfl, rfl⟩ := hrel
    by_cases hlt : k < len
    · have hck := unhide HC k hlt
      by_cases he : z k = p
      · have HE := hide he
        have hb : (z k == p) = true := by simp [he]
        clear he
        go_wp2_with fail
        exact ⟨⟨k + 1, by omega, by go_num, by rw [last_yes (unhide HE)]⟩, by simp [intOf]; omega⟩
      · have hb : (z k == p) = false := by simp [he]
        have HE := hide he
        clear he
        go_wp2_with fail
        exact ⟨⟨k + 1, by omega, by go_num, by rw [last_no (unhide HE)]⟩, by simp [intOf]; omega⟩
    · go_wp2_with fail
      go_ret
      exact ⟨ret_int (by rw [show k = len by omega]), rfl⟩

set_option maxHeartbeats 400000 in
theorem last_none (a : Option Addr) (cap : Nat) (z : Nat → Int) (p : Int) (w : World) :
    Calls Yba.prog 12 #[.slice a 0 cap, .int .u16 p] w fun e w' => e = .returned (.int .i64 (last z 0 p)) ∧ w' = w := by
  go_enter Yba.func12, Yba.ntmps12
  go_wp2_with fail
  refine wp_loop_rounds 1 ?_
  rw [rounds_succ]
  go_wp2_with fail
  go_ret
  exact ⟨rfl, rfl⟩

theorem last_any (a : Option Addr) (len cap : Nat) (z : Nat → Int) (p : Int) (w : World) (hl : len ≤ 1024) (h : Row w a len z) :
    Calls Yba.prog 12 #[.slice a len cap, .int .u16 p] w fun e w' => e = .returned (.int .i64 (last z len p)) ∧ w' = w := by
  rcases h with rfl | ⟨b, off, rfl, hc⟩
  · exact last_none a cap z p w
  · exact last_some b off len cap z p w hl hc

set_option maxHeartbeats 400000 in
theorem mem_some (b off len cap : Nat) (z : Nat → Int) (p : Int) (w : World) (hl : len ≤ 1024) (hc : ∀ j, j < len → w.cell? ⟨b, off + j, none⟩ = some (.int .u16 (z j))) :
    Calls Yba.prog 15 #[.slice (some ⟨b, off, none⟩) len cap, .int .u16 p] w fun e w' => e = .returned (.bool (mem z len p)) ∧ w' = w := by
  have HC := hide hc
  clear hc
  go_enter Yba.func15, Yba.ntmps15
  go_wp2_with fail
  go_loop [9] (fun i => ∃ k : Nat, k ≤ len ∧ i = .int .i64 k ∧ mem z k p = false) (fun i => len - (intOf i).toNat)
  case atStart => exact ⟨0, Nat.zero_le _, rfl, rfl⟩
  case round =>
    obtain ⟨k, hk, rfl, hm⟩ := hrel
    have HM := hide hm
    clear hm
    by_cases hlt : k < len
    · have hck := unhide HC k hlt
      by_cases he : z k = p
      · have HE := hide he
        have hb : (z k == p) = true := by simp [he]
        clear he
        go_wp2_with fail
        go_ret
        exact ⟨ret_bool (mem_of_lt (unhide HE) hlt).symm, rfl⟩
      · have hb : (z k == p) = false := by simp [he]
        have HE := hide he
        clear he
        go_wp2_with fail
        exact ⟨⟨k + 1, by omega, by go_num, by simp [mem, unhide HM, unhide HE]⟩, by simp [intOf]; omega⟩
    · go_wp2_with fail
      go_ret
      exact ⟨ret_bool (by rw [show len = k by omega]; exact (unhide HM).symm), rfl⟩

set_option maxHeartbeats 400000 in
theorem mem_none (a : Option Addr) (cap : Nat) (z : Nat → Int) (p : Int) (w : World) :
    Calls Yba.prog 15 #[.slice a 0 cap, .int .u16 p] w fun e w' => e = .returned (.bool (mem z 0 p)) ∧ w' = w := by
  go_enter Yba.func15, Yba.ntmps15
  go_wp2_with fail
  refine wp_loop_rounds 1 ?_
  rw [rounds_succ]
  go_wp2_with fail
  go_ret
  exact ⟨rfl, rfl⟩

theorem mem_any (a : Option Addr) (len cap : Nat) (z : Nat → Int) (p : Int) (w : World) (hl : len ≤ 1024) (h : Row w a len z) :
    Calls Yba.prog 15 #[.slice a len cap, .int .u16 p] w fun e w' => e = .returned (.bool (mem z len p)) ∧ w' = w := by
  rcases h with rfl | ⟨b, off, rfl, hc⟩
  · exact mem_none a cap z p w
  · exact mem_some b off len cap z p w hl hc

set_option maxHeartbeats 400000 in
theorem from_any (p : Int) (w : World) :
    Calls Yba.prog 16 #[.agg #[.int .u64 0, .int .u64 0, .pointer none], .int .u16 p] w fun e w' => e = .returned (.agg #[.int .u64 0, .int .u64 0, .pointer none, .int .u16 p]) ∧
      w' = (w.alloc (.cells #[.int .u64 0, .int .u64 0, .pointer none] 59)).alloc (.cells #[.int .u64 0, .int .u64 0, .pointer none, .int .u16 p] 61) := by
  go_enter Yba.func16, Yba.ntmps16
  go_wp2
  exact bodyPost_ret (v := .agg #[.int .u64 0, .int .u64 0, .pointer none, .int .u16 p]) (by simp [results, Yba.results16, go_sem]) rfl ⟨rfl, rfl⟩

set_option maxHeartbeats 400000 in
theorem addr_any (p : Int) (w : World) :
    Calls Yba.prog 14 #[.int .u16 p] w fun e w' => e = .returned (key p) ∧ Below w.heap.size w w' := by
  go_enter Yba.func14, Yba.ntmps14
  go_wp2_with fail
  refine (from_any _ _).mono ?_
  rintro e w' ⟨rfl, rfl⟩
  go_wp2_with fail
  refine bodyPost_ret (v := key p) (by simp [results, Yba.results14, go_sem, key]) rfl ⟨rfl, ?_⟩
  repeat (first | exact Below.refl _ _ | (refine Below.drew ?_) | (refine Below.setCell ?_ (by simp) _) | (refine Below.alloc ?_ (by simp <;> omega) _))
end Go.Proofs.Ybulkaiki.Net
