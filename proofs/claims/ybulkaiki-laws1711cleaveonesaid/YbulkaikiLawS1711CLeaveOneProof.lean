/-
  A PROOF OF 'Rows.LawS1711CLeaveOneSaid' ('example.com/ringwright/ringwright/internal/sim.LawS1711CLeaveOne'), ITS FRAME WRITTEN BY PROGRAM (proof-skeleton.mjs, third state) off the guide's own print for that function. Not trusted: Lean checks it.
  The walk and what stands ahead of it are typed by hand; all else is the guide's template at this function's number and types.
-/
import Derived.Test.YbulkaikiRows
import Derived.WalkKit
import Derived.Test.YbulkaikiOneRaw
import Derived.Test.YbulkaikiOnePick
import Derived.Test.YbulkaikiOneNone
import Derived.ProofKit
import Derived.OpenShut
import Derived.ShutString
import Derived.ChangeOld
import Derived.Below
namespace Go.Proofs.Ybulkaiki.lawS1711CLeaveOne
open Go.ChangeShapes Go.WideShapes Go.ChangeAt Go.RowKit
open Go.ChangeMaps (open_string shut_string)
set_option linter.unusedVariables false

theorem own : ownKnob Yba.prog.godebug = none := by kernel_rfl
theorem laidOut : laidOutB Yba.prog = true := by kernel_rfl

/-- WHAT THE WALK IS TOLD OF A SLICE OF INTEGERS THAT CAME IN: it is nil; or it leads to a row of 'cap' cells, the numbers 'zs' (the first 'len' are its elements, the rest its spare room), each fitting its kind. -/
def IsRow (k : IntKind) (w : World) (a : Option Addr) (len cap : Nat) (zs : List Int) : Prop :=
  (a = none ∧ len = 0 ∧ cap = 0 ∧ zs = []) ∨
  ∃ x, a = some x ∧ len ≤ cap ∧ cap ≤ maxLen ∧ zs.length = cap ∧ (∀ i, i < zs.length → w.cell? (x.add i) = some (.int k (zs.getD i 0))) ∧ ∀ n ∈ zs, (Lit.int k n).wf = true

/-! ### STEP 1: THE WALK: the Go text returns true, AND WRITES NOTHING THAT WAS THERE: 'Below w.heap.size w w'' (Derived/Below.lean: '.refl', '.alloc', '.drew', '.setCell' at a new block, '.trans'). Open each 'IsRow' by 'rcases' AHEAD of 'go_enter'; part every test ahead of the walk. -/
theorem walk (a0 : Option Addr) (len0 cap0 : Nat) (z0 : List Int) (a1 : Int) (a2 : Bool) (w : World) (w0 : IsRow .u16 w a0 len0 cap0 z0) (w1 : (Lit.int .u16 a1).wf = true) :
    Calls Yba.prog 6 #[.slice a0 len0 cap0, .int .u16 a1, .bool a2] w fun e w' => e = .returned (.bool true) ∧ Below w.heap.size w w' := by
  obtain ⟨b10, b11⟩ := bounds_u16 w1
  by_cases hl : (1024 : Int) < (len0 : Int)
  · exact Net.one_long a0 len0 cap0 a1 a2 w hl
  by_cases h0 : len0 = 0
  · subst h0
    cases a2
    · exact Net.one_pick_none a0 cap0 (fun _ => 0) a1 w (Or.inl rfl) (by omega)
    · exact Net.one_raw_none a0 cap0 (fun _ => 0) a1 w (Or.inl rfl) (by omega)
  rcases w0 with ⟨_, h, _⟩ | ⟨x, rfl, hlc, _, hz, hc, hw⟩
  · omega
  · obtain ⟨b, off, rfl, hcell⟩ := ints_at hc (by omega)
    have hb : b < w.heap.size := World.block_lt_of_cell? w _ (hcell 0 (by omega))
    have hcs : ∀ j, j < len0 → w.cell? ⟨b, off + j, none⟩ = some (.int .u16 (z0.getD j 0)) := fun j hj => hcell j (by omega)
    cases a2
    · exact Net.one_pick_some b off len0 cap0 (fun j => z0.getD j 0) a1 w (Or.inr ⟨b, off, rfl, hcs⟩) (by omega) hcs hb (by omega) b10 b11
    · exact Net.one_raw_some b off len0 cap0 (fun j => z0.getD j 0) a1 w (Or.inr ⟨b, off, rfl, hcs⟩) (by omega) hcs hb

/-! ### THE ROW's STEP: WRITTEN OUT: LEAVE IT -/
set_option maxRecDepth 100000 in
theorem lifted (os : Os) (started : os.Started) (H : Type) (enc : TypeId × Value → H) :
    ReturnsInHanded {} Yba.checked os 6 .any (Rows.lawS1711CLeaveOneSpec.pre6 enc Yba.prog Yba.f6 Rows.lawS1711CLeaveOneRow.domain false) (Rows.lawS1711CLeaveOneSpec.post enc Yba.prog Yba.f6 false true false false) := by
  refine returnsInHanded_of_change (C := Yba.checked) own started (by kernel_rfl) Yba.func6
    (ChangeSpec.witness6 (enc := enc) (C := Yba.checked) false ⟨#[], #[.slice none 0 0, .int .u16 0, .bool false], []⟩ 8 (by kernel_rfl) (by kernel_rfl) (by kernel_rfl) (by kernel_rfl)) ?_
  intro W base args ds gs before hval0 hW hcnd _
  have hval : ∀ (j : Nat) t v, Yba.f6.params[j]? = some t → args[j]? = some v → Value.okWide Yba.prog W .any base t v := hval0
  have hW' := hW
  obtain ⟨p, q, hA0, hV, rfl, hfz, hnd⟩ := hW
  have hA : DataW.TrodAll enc Yba.prog W 0 (fun _ => true) true Yba.f6.params.toList args.toList ds p := hA0
  rw [Yba.params6] at hA hval
  obtain ⟨v0, vs0, d0, ds0, p0, q0, hargs, rfl, rfl, h0, r0⟩ := trodAll_cons hA
  obtain ⟨v1, vs1, d1, ds1, p1, q1, rfl, rfl, rfl, h1, r1⟩ := trodAll_cons r0
  obtain ⟨v2, vs2, d2, ds2, p2, q2, rfl, rfl, rfl, h2, r2⟩ := trodAll_cons r1
  obtain ⟨rfl, rfl, rfl⟩ := trodAll_nil r2
  obtain rfl : args = #[v0, v1, v2] := by cases args; simp_all
  obtain ⟨rfl, rfl⟩ := trodVars_none hV
  obtain ⟨a0, len0, cap0, rfl⟩ := okWide_slice Yba.underlying33 (hval 0 33 v0 rfl rfl)
  have k0 := h0
  have lt0 : ∀ x ∈ p0, x.block < W.heap.size := by obtain ⟨m, hm⟩ := k0; exact DataW.trod_lt m _ _ _ hm
  obtain ⟨z0, w0⟩ : ∃ zs, IsRow .u16 W a0 len0 cap0 zs := by
    obtain ⟨fuel, hf⟩ := h0
    rcases open_ints Yba.underlying33 Yba.underlying34 (by kernel_rfl) hf with ⟨hcs, _⟩ | ⟨x, l, c, zs, hcs, _, hl, hm, hz, _, hcell, hwz⟩
    · simp [Value.cells] at hcs
      obtain ⟨rfl, rfl, rfl⟩ := hcs
      exact ⟨[], .inl ⟨rfl, rfl, rfl, rfl⟩⟩
    · simp [Value.cells] at hcs
      obtain ⟨rfl, rfl, rfl⟩ := hcs
      exact ⟨zs, .inr ⟨_, rfl, hl, hm, by simpa using hz, hcell, hwz⟩⟩
  obtain ⟨a1, rfl, rfl, rfl, w1⟩ := open_int Yba.underlying34 (hval 1 34 v1 rfl rfl) h1
  obtain ⟨a2, rfl, rfl, rfl⟩ := open_bool Yba.underlying4 (hval 2 4 v2 rfl rfl) h2
  clear hA0 hval0
  refine (walk a0 len0 cap0 z0 a1 a2 W w0 w1).mono fun e W' ⟨he, bel⟩ => ?_
  subst he
  exact ⟨_, rfl, _, _, _, [], _, [], hW', trodAll_mk1 (shut_bool Yba.underlying4 _), (trodAll_cons_mk (Below.trod laidOut (by kernel_rfl) (of_decide_eq_true (by kernel_rfl)) k0 bel lt0) (trodAll_cons_mk (shut_int Yba.underlying34 w1) (trodAll_cons_mk (shut_bool Yba.underlying4 _) trodAll_mk0))), rfl, bel.frame _, fun h => by cases h⟩

theorem over : Rows.lawS1711CLeaveOneRow.holds Yba.pinned (OpenSpec.ofChange Rows.lawS1711CLeaveOneSpec) :=
  OpenClaim.holds_of_wide 6 Yba.f6 rfl rfl rfl rfl rfl rfl rfl ⟨rfl, rfl, rfl, rfl, rfl⟩ rfl rfl rfl rfl rfl (by kernel_rfl) Yba.func6 (by kernel_rfl)
    (of_decide_eq_true (by kernel_rfl)) (by unfold Func.isWrapper; first | (rw [if_pos (by decide +kernel)]; kernel_rfl) | (rw [if_neg (by decide +kernel)]; exact ⟨rfl, rfl⟩))
    (fun os started H enc _ => lifted os started H enc)

/-- ████ THE STATEMENT ████ -/
theorem proved : Rows.LawS1711CLeaveOneSaid := over
#print axioms proved
end Go.Proofs.Ybulkaiki.lawS1711CLeaveOne
