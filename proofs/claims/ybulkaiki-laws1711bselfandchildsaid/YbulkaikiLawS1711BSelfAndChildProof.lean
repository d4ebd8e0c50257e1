/-
  A PROOF OF 'Rows.LawS1711BSelfAndChildSaid' ('example.com/ringwright/ringwright.LawS1711BSelfAndChild'), ITS FRAME WRITTEN BY PROGRAM (proof-skeleton.mjs) off the guide's own print for that function. Not trusted: Lean checks it.
  The walk and what stands ahead of it are typed by hand; all else is the guide's template at this function's number and types.
-/
import Derived.Test.YbulkaikiRows
import Derived.WalkKit
import Derived.Test.YbulkaikiRegion
import Derived.ProofKit
import Derived.OpenShut
import Derived.ShutString
namespace Go.Proofs.Ybulkaiki.lawS1711BSelfAndChild
open Go.ChangeShapes Go.WideShapes Go.ChangeAt Go.RowKit
open Go.ChangeMaps (open_string shut_string)
set_option linter.unusedVariables false      -- a walk need not use every 'w<i>' (that an integer argument fits its kind)

theorem own : ownKnob Yba.prog.godebug = none := by kernel_rfl

/-! ### The plain laws -/
theorem self (d x y : Int) : Region.cont d x y d x y = true := by simp [Region.cont]
theorem up (d x y X Y : Int) : Region.cont (d + 1) X Y d x y = false := Region.cont_lt (by omega)
theorem down (d x y i : Int) (hx0 : 0 ≤ x) (hx : x ≤ 4294967295) (hy0 : 0 ≤ y) (hy : y ≤ 4294967295) (hi0 : 0 ≤ i) (hi : i ≤ 3) :
    Region.cont d x y (d + 1) (Region.cx x i) (Region.cy y i) = (decide (x < 2147483648) && decide (y < 2147483648)) := by
  have e : d + 1 - d = 1 := by omega
  have h : ¬ d + 1 < d := by omega
  have ex : (Region.cx x i / 2 = x) ↔ x < 2147483648 := by unfold Region.cx; omega
  have ey : (Region.cy y i / 2 = y) ↔ y < 2147483648 := by unfold Region.cy; omega
  have e2 : min (1 : Int).toNat 32 = 1 := by decide
  rw [Bool.eq_iff_iff]
  simp only [Region.cont, e, e2, h, Int.pow_one, decide_false, Bool.not_false, Bool.true_and, Bool.and_eq_true, beq_iff_eq, decide_eq_true_eq, ex, ey]

theorem child_bounds (x y i : Int) : 0 ≤ Region.cx x i ∧ Region.cx x i ≤ 4294967295 ∧ 0 ≤ Region.cy y i ∧ Region.cy y i ≤ 4294967295 := by
  unfold Region.cx Region.cy; omega

/-! ### STEP 1: THE WALK: the Go text returns true. 'Grown w w'': the world has at most new blocks (Derived/RowKit3.lean). Part the cases AHEAD of 'go_enter' where a test parts the walk; take each callee by a contract of your own. -/
theorem walk (a0 : Int) (a1 : Int) (a2 : Int) (a3 : Int) (w0 : (Lit.int .i32 a0).wf = true) (w1 : (Lit.int .u32 a1).wf = true) (w2 : (Lit.int .u32 a2).wf = true) (w3 : (Lit.int .u8 a3).wf = true) (w : World) :
    Calls Yba.prog 5 #[.int .i32 a0, .int .u32 a1, .int .u32 a2, .int .u8 a3] w fun e w' => e = .returned (.bool true) ∧ Grown w w' := by
  obtain ⟨b00, b01⟩ := bounds_i32 w0
  obtain ⟨b10, b11⟩ := bounds_u32 w1
  obtain ⟨b20, b21⟩ := bounds_u32 w2
  obtain ⟨b30, b31⟩ := bounds_u8 w3
  clear w0 w1 w2 w3
  obtain ⟨c1, c2, c3, c4⟩ := child_bounds a1 a2 (a3 % 4)
  have hs := self a0 a1 a2
  have hu := up a0 a1 a2 (Region.cx a1 (a3 % 4)) (Region.cy a2 (a3 % 4))
  have HD : Hid _ := down a0 a1 a2 (a3 % 4) b10 b11 b20 b21 (by omega) (by omega)
  go_enter Yba.func5, Yba.ntmps5
  go_wp2_with fail
  refine (Region.contains_any _ _ _ _ _ _ (by omega) (by omega) (by omega) (by omega) (by omega) (by omega) _).mono ?_
  rintro e w' ⟨rfl, rfl⟩
  go_wp2_with fail
  refine (Region.child_any _ _ _ _ (by omega) (by omega) (by omega) (by omega) (by omega) (by omega) (by omega) (by omega) _).mono ?_
  rintro e w' ⟨rfl, rfl⟩
  go_wp2_with fail
  refine (Region.contains_any _ _ _ _ _ _ (by omega) (by omega) (by omega) (by omega) (by omega) (by omega) _).mono ?_
  rintro e w' ⟨rfl, rfl⟩
  by_cases hx : a1 < 2147483648
  all_goals
    go_wp2_with fail
    refine (Region.contains_any _ _ _ _ _ _ (by omega) (by omega) (by omega) (by omega) (by omega) (by omega) _).mono ?_
    rintro e w' ⟨rfl, rfl⟩
    go_wp2_with fail
    go_ret
    refine ⟨?_, by repeat (first | exact Grown.refl _ | apply Grown.drew | apply Grown.alloc)⟩
    have hd := HD.out
    simp [hd, hx]

/-! ### THE ROW's STEP: WRITTEN OUT: LEAVE IT -/
set_option maxRecDepth 100000 in
theorem lifted (os : Os) (started : os.Started) (H : Type) (enc : TypeId × Value → H) :
    ReturnsInHanded {} Yba.checked os 5 .any (Rows.lawS1711BSelfAndChildSpec.pre6 enc Yba.prog Yba.f5 Rows.lawS1711BSelfAndChildRow.domain false) (Rows.lawS1711BSelfAndChildSpec.post enc Yba.prog Yba.f5 false true false false) := by
  refine returnsInHanded_of_change (C := Yba.checked) own started (by kernel_rfl) Yba.func5
    (ChangeSpec.witness6 (enc := enc) (C := Yba.checked) false ⟨#[], #[.int .i32 0, .int .u32 0, .int .u32 0, .int .u8 0], []⟩ 8 (by kernel_rfl) (by kernel_rfl) (by kernel_rfl) (by kernel_rfl)) ?_
  intro W base args ds gs before hval0 hW hcnd _
  have hval : ∀ (j : Nat) t v, Yba.f5.params[j]? = some t → args[j]? = some v → Value.okWide Yba.prog W .any base t v := hval0
  have hW' := hW
  obtain ⟨p, q, hA0, hV, rfl, hfz, hnd⟩ := hW
  have hA : DataW.TrodAll enc Yba.prog W 0 (fun _ => true) true Yba.f5.params.toList args.toList ds p := hA0
  rw [Yba.params5] at hA hval
  obtain ⟨v0, vs0, d0, ds0, p0, q0, hargs, rfl, rfl, h0, r0⟩ := trodAll_cons hA
  obtain ⟨v1, vs1, d1, ds1, p1, q1, rfl, rfl, rfl, h1, r1⟩ := trodAll_cons r0
  obtain ⟨v2, vs2, d2, ds2, p2, q2, rfl, rfl, rfl, h2, r2⟩ := trodAll_cons r1
  obtain ⟨v3, vs3, d3, ds3, p3, q3, rfl, rfl, rfl, h3, r3⟩ := trodAll_cons r2
  obtain ⟨rfl, rfl, rfl⟩ := trodAll_nil r3
  obtain rfl : args = #[v0, v1, v2, v3] := by cases args; simp_all
  obtain ⟨rfl, rfl⟩ := trodVars_none hV
  obtain ⟨a0, rfl, rfl, rfl, w0⟩ := open_int Yba.underlying21 (hval 0 21 v0 rfl rfl) h0
  obtain ⟨a1, rfl, rfl, rfl, w1⟩ := open_int Yba.underlying22 (hval 1 22 v1 rfl rfl) h1
  obtain ⟨a2, rfl, rfl, rfl, w2⟩ := open_int Yba.underlying22 (hval 2 22 v2 rfl rfl) h2
  obtain ⟨a3, rfl, rfl, rfl, w3⟩ := open_int Yba.underlying5 (hval 3 5 v3 rfl rfl) h3
  clear hA0 hval0
  simp only [List.append_nil] at hW'
  refine (walk a0 a1 a2 a3 w0 w1 w2 w3 W).mono fun e W' ⟨he, hg⟩ => ?_
  subst he
  exact ⟨_, rfl, post_of_same (pa := []) (pv := []) hW' (fun _ _ _ => (trodAll_cons_mk (shut_bool Yba.underlying4 _) trodAll_mk0)) (fun sp _ => (trodAll_cons_mk (shut_int Yba.underlying21 w0) (trodAll_cons_mk (shut_int Yba.underlying22 w1) (trodAll_cons_mk (shut_int Yba.underlying22 w2) (trodAll_cons_mk (shut_int Yba.underlying5 w3) trodAll_mk0))))) (fun _ _ => rfl) rfl
    (hg.frame _) hg.2.1 (ok_one (by kernel_rfl) rfl (okWide_bool_mk Yba.underlying4 _))⟩

theorem over : Rows.lawS1711BSelfAndChildRow.holds Yba.pinned (OpenSpec.ofChange Rows.lawS1711BSelfAndChildSpec) :=
  OpenClaim.holds_of_wide 5 Yba.f5 rfl rfl rfl rfl rfl rfl rfl ⟨rfl, rfl, rfl, rfl, rfl⟩ rfl rfl rfl rfl rfl (by kernel_rfl) Yba.func5 (by kernel_rfl)
    (of_decide_eq_true (by kernel_rfl)) (by unfold Func.isWrapper; first | (rw [if_pos (by decide +kernel)]; kernel_rfl) | (rw [if_neg (by decide +kernel)]; exact ⟨rfl, rfl⟩))
    (fun os started H enc _ => lifted os started H enc)

/-- ████ THE STATEMENT ████ -/
theorem proved : Rows.LawS1711BSelfAndChildSaid :=
  over
#print axioms proved
end Go.Proofs.Ybulkaiki.lawS1711BSelfAndChild
