/-
  'zzs1711cbuild' (11). Typed by hand.
-/
import Derived.Test.YbulkaikiLeave
import Derived.Deep.RegionWith
namespace Go.Proofs.Ybulkaiki.Net
open Go.ChangeShapes Go.WideShapes Go.ChangeAt Go.RowKit
set_option linter.unusedVariables false

theorem info64 : (Yba.prog.info? 64).map (fun i => (i.zero, i.size, i.bytes)) = some (some .nilIface, 1, 16) := by kernel_rfl

/-- What the index holds behind k rounds. -/
def lastf (z : Nat → Int) (k : Nat) (p : Int) : Option Int := if 0 ≤ last z k p then some (last z k p) else none

theorem lastf_zero (z : Nat → Int) : lastf z 0 = fun _ => none := by
  funext p; simp [lastf, last]
theorem lastf_step (z : Nat → Int) (k : Nat) : (fun x => if x = z k then some (k : Int) else lastf z k x) = lastf z (k + 1) := by
  funext p
  unfold lastf
  by_cases h : p = z k
  · rw [if_pos h, last_yes h.symm, if_pos (by omega)]
  · rw [if_neg h, last_no (fun e => h e.symm)]

/-- THE STATE WITHIN A ROUND: the two rows may part in length; cv: what the field 'nodes' holds; sv: the slice of nodes as the round has it. -/
structure St (w wr : World) (len ko kn : Nat) (cv sv : Value) (os cs : List Value) (f : Int → Option Int) (n : Nat) : Prop where
  below : Below w.heap.size w wr
  nodes : wr.ownsRow (w.heap.size + 3) 64 1 sv kn cs
  orig : wr.ownsRow (w.heap.size + 2) 64 1 (.slice (some ⟨w.heap.size + 1 + 1, 0, none⟩) ko len) ko os
  c1 : wr.cell? ⟨w.heap.size + 1, 1, none⟩ = some cv
  c2 : wr.cell? ⟨w.heap.size + 1, 2, none⟩ = some (.map (some w.heap.size))
  frozen : wr.frozen? ⟨w.heap.size + 1, 1, none⟩ = false
  idx : Idx wr w.heap.size f n
  big : w.heap.size + 3 ≤ wr.heap.size

section
variable {w wr : World} {len ko kn : Nat} {cv sv : Value} {os cs : List Value} {f : Int → Option Int} {n : Nat}

theorem St.own (h : St w wr len ko kn cv sv os cs f n) : ∀ k, sv.ownBlock = some k → w.heap.size + 3 ≤ k ∧ k < wr.heap.size := h.nodes.lt

theorem St.after (h : St w wr len ko kn cv sv os cs f n) {w' : World} (hb : Below wr.heap.size wr w') : St w w' len ko kn cv sv os cs f n := by
  have hbig := h.big
  exact ⟨h.below.trans (hb.mono (by omega)), h.nodes.kept (grown_of_below hb none) (by cases sv.ownBlock <;> simp), h.orig.kept (grown_of_below hb none) (by simp [Value.ownBlock]),
    (hb.cell (p := ⟨w.heap.size + 1, 1, none⟩) (show w.heap.size + 1 < _ by omega)).trans h.c1, (hb.cell (p := ⟨w.heap.size + 1, 2, none⟩) (show w.heap.size + 1 < _ by omega)).trans h.c2,
    (hb.frozen (p := ⟨w.heap.size + 1, 1, none⟩) (show w.heap.size + 1 < _ by omega)).trans h.frozen, h.idx.kept (hb.block _ (by omega)), Nat.le_trans hbig hb.size⟩

theorem St.alloc (h : St w wr len ko kn cv sv os cs f n) (o : Obj) : St w (wr.alloc o) len ko kn cv sv os cs f n := h.after ((Below.refl _ _).alloc (Nat.le_refl _) o)
theorem St.drew (h : St w wr len ko kn cv sv os cs f n) : St w wr.drew len ko kn cv sv os cs f n := h.after (Below.refl _ _).drew

/-- 'orig' has been appended to. -/
theorem St.orig' (h : St w wr len ko kn cv sv os cs f n) {w' : World} {ko' : Nat} {os' : List Value} (hg : wr.grownBy w' (some (w.heap.size + 1 + 1))) (ho : w'.ownsRow (w.heap.size + 2) 64 1 (.slice (some ⟨w.heap.size + 1 + 1, 0, none⟩) ko' len) ko' os') : St w w' len ko' kn cv sv os' cs f n := by
  have hbig := h.big
  have hne : ∀ k, k < w.heap.size + 2 → w'.heap[k]? = wr.heap[k]? := fun k hk => hg.block k (by omega) (by simp; omega)
  refine ⟨h.below.grown hg (by omega) (fun k hk => by cases hk; omega), h.nodes.kept hg ?_, ho, (World.cell?_of_block (hne _ (show w.heap.size + 1 < _ by omega))).trans h.c1, (World.cell?_of_block (hne _ (show w.heap.size + 1 < _ by omega))).trans h.c2,
    (World.frozen?_of_block (hne _ (show w.heap.size + 1 < _ by omega))).trans h.frozen, h.idx.kept (hne _ (by omega)), Nat.le_trans hbig hg.size⟩
  cases hs : sv.ownBlock with
  | none => exact Or.inl rfl
  | some k =>
    have := (h.own k hs).1
    exact Or.inr (by simp; omega)

/-- The nodes have been appended to; the field is not yet written. -/
theorem St.nodes' (h : St w wr len ko kn cv sv os cs f n) {w' : World} {kn' : Nat} {sv' : Value} {cs' : List Value} (hg : wr.grownBy w' sv.ownBlock) (ho : w'.ownsRow (w.heap.size + 3) 64 1 sv' kn' cs') : St w w' len ko kn' cv sv' os cs' f n := by
  have hbig := h.big
  have hne : ∀ k, k < w.heap.size + 3 → w'.heap[k]? = wr.heap[k]? := fun k hk => hg.block k (by omega) (fun e => by have := (h.own k e.symm).1; omega)
  refine ⟨h.below.grown hg (by omega) (fun k hk => by have := (h.own k hk).1; omega), ho, ?_, (World.cell?_of_block (hne _ (show w.heap.size + 1 < _ by omega))).trans h.c1, (World.cell?_of_block (hne _ (show w.heap.size + 1 < _ by omega))).trans h.c2,
    (World.frozen?_of_block (hne _ (show w.heap.size + 1 < _ by omega))).trans h.frozen, h.idx.kept (hne _ (by omega)), Nat.le_trans hbig hg.size⟩
  refine h.orig.kept hg (Or.inr ?_)
  intro e
  have := (h.own (w.heap.size + 1 + 1) (by rw [← e]; rfl)).1
  omega

/-- The field is written. -/
theorem St.store (h : St w wr len ko kn cv sv os cs f n) (u : Value) : St w (wr.setCell ⟨w.heap.size + 1, 1, none⟩ u) len ko kn u sv os cs f n := by
  have hbig := h.big
  have hne : ∀ k, k ≠ w.heap.size + 1 → (wr.setCell ⟨w.heap.size + 1, 1, none⟩ u).heap[k]? = wr.heap[k]? := fun k hk => Below.heap_setCell wr _ _ k hk
  have hg : wr.grownBy (wr.setCell ⟨w.heap.size + 1, 1, none⟩ u) (some (w.heap.size + 1)) := ⟨rfl, rfl, rfl, by simp, fun k _ hk => hne k (by simpa using hk)⟩
  refine ⟨h.below.setCell (by simp) _, h.nodes.kept hg ?_, h.orig.kept hg (Or.inr (by simp [Value.ownBlock])), World.cell?_setCell_same _ _ _ h.c1, (World.cell?_setCell_other _ _ _ _ (by simp)).trans h.c2,
    (World.frozen?_setCell _ _ _ _).trans h.frozen, h.idx.kept (hne _ (by omega)), by simpa using hbig⟩
  cases hs : sv.ownBlock with
  | none => exact Or.inl rfl
  | some k =>
    have := (h.own k hs).1
    exact Or.inr (by simp; omega)

/-- The index is written. -/
theorem St.index (h : St w wr len ko kn cv sv os cs f n) {w' : World} {g : Int → Option Int} {m : Nat} (hg : wr.grownBy w' (some w.heap.size)) (hi : Idx w' w.heap.size g m) : St w w' len ko kn cv sv os cs g m := by
  have hbig := h.big
  have hne : ∀ k, k < wr.heap.size → k ≠ w.heap.size → w'.heap[k]? = wr.heap[k]? := fun k hk hn => hg.block k hk (by simpa using hn)
  refine ⟨h.below.grown hg (by omega) (fun k hk => by cases hk; exact Nat.le_refl _), h.nodes.kept hg ?_, h.orig.kept hg (Or.inr (by simp [Value.ownBlock]; omega)), (World.cell?_of_block (hne _ (show w.heap.size + 1 < _ by omega) (by simp))).trans h.c1,
    (World.cell?_of_block (hne _ (show w.heap.size + 1 < _ by omega) (by simp))).trans h.c2, (World.frozen?_of_block (hne _ (show w.heap.size + 1 < _ by omega) (by simp))).trans h.frozen, hi, Nat.le_trans hbig hg.size⟩
  cases hs : sv.ownBlock with
  | none => exact Or.inl rfl
  | some k =>
    have := (h.own k hs).1
    exact Or.inr (by simp; omega)
end

/-- The relation at the loop's head. -/
def Rel (w wr : World) (len k : Nat) (z : Nat → Int) (sv : Value) (ads : List Addr) (n : Nat) : Prop :=
  St w wr len k k sv sv (ads.map nodeV) (ads.map nodeV) (lastf z k) n ∧ ads.length = k ∧ n ≤ k

theorem rel_start (w w1 : World) (len : Nat) (z : Nat → Int) (cs : Array Value) (h1 : cs[1]? = some (.slice none 0 0)) (h2 : cs[2]? = some (.map (some w.heap.size)))
    (ho : w1.ownsRow (w.heap.size + 2) 64 1 (.slice (some ⟨w.heap.size + 1 + 1, 0, none⟩) 0 len) 0 []) (hg : ((w.alloc (Obj.map #[] 0)).alloc (Obj.cells cs 50)).grownBy w1 none) : Rel w w1 len 0 z (.slice none 0 0) [] 0 := by
  have e : (w.alloc (Obj.map #[] 0)).heap.size = w.heap.size + 1 := by simp
  have hbl : ∀ k, k < w.heap.size + 2 → w1.heap[k]? = ((w.alloc (Obj.map #[] 0)).alloc (Obj.cells cs 50)).heap[k]? := fun k hk => hg.block k (by simp; omega) (by simp)
  have hc : ∀ i, w1.cell? ⟨w.heap.size + 1, i, none⟩ = cs[i]? := fun i => by
    rw [World.cell?_of_block (hbl _ (show w.heap.size + 1 < _ by omega)), ← e]
    exact World.cell?_alloc_new _ _ _ _
  have hbig : w.heap.size + 3 ≤ w1.heap.size := by
    have := (ho.lt (w.heap.size + 1 + 1) rfl).2
    omega
  refine ⟨⟨(((Below.refl _ w).alloc (Nat.le_refl _) _).alloc (by simp) _).grown hg (by simp; omega) (by simp), World.ownsRow_nil _ _ _ _, ho, (hc 1).trans h1, (hc 2).trans h2, ?_, ?_, hbig⟩, rfl, Nat.le_refl _⟩
  · rw [World.frozen?_of_block (hbl _ (show w.heap.size + 1 < _ by omega)), ← e]
    exact World.frozen?_alloc_new _ _ _ _
  · rw [lastf_zero]
    refine (Idx.made w).kept ?_
    rw [hbl _ (by omega)]
    exact Below.heap_alloc _ _ _ (by simp)

theorem Rel.net {w wr : World} {len k : Nat} {z : Nat → Int} {sv : Value} {ads : List Addr} {n : Nat} (h : Rel w wr len k z sv ads n) : Net wr w.heap.size k sv len (ads.map nodeV) ads (lastf z k) n :=
  ⟨h.1.nodes, h.1.orig, h.1.c1, h.1.c2, h.1.idx, h.1.big⟩

theorem rel_step {w w7 : World} {len k : Nat} {z : Nat → Int} {sv : Value} {ads : List Addr} {a : Addr} {n : Nat}
    (h : St w w7 len (k + 1) (k + 1) sv sv (ads.map nodeV ++ [nodeV a]) (ads.map nodeV ++ [nodeV a]) (fun x => if x = z k then some (k : Int) else lastf z k x) n) (hc : ads.length = k) (hn : n ≤ k + 1) : Rel w w7 len (k + 1) z sv (ads ++ [a]) n := by
  rw [lastf_step] at h
  refine ⟨?_, by simp [hc], hn⟩
  have e : (ads ++ [a]).map nodeV = ads.map nodeV ++ [nodeV a] := by simp
  rw [e]
  exact h

theorem one_new (w : World) (o : Obj) (x : Value) (t : TypeId) : ∀ j u, [x][j]? = some u → ((w.alloc o).alloc (.cells #[x] t)).cell? ((⟨w.heap.size + 1, 0, none⟩ : Addr).add j) = some u := by
  have e : (w.alloc o).heap.size = w.heap.size + 1 := by simp
  have h := cell_one_new (w.alloc o) x t
  rwa [e] at h

theorem one_nodeV (a : Addr) : ∀ u ∈ [nodeV a], u.oneCell' = true := by
  intro u hu
  obtain rfl := List.mem_singleton.1 hu
  rfl

set_option maxRecDepth 100000 in
set_option maxHeartbeats 2000000 in
theorem build_some (b off len cap : Nat) (z : Nat → Int) (w : World) (hl : len ≤ 1024) (hc : ∀ j, j < len → w.cell? ⟨b, off + j, none⟩ = some (.int .u16 (z j))) (hb : b < w.heap.size) :
    Calls Yba.prog 11 #[.slice (some ⟨b, off, none⟩) len cap] w fun e w' => e = .returned (.tuple #[.pointer (some ⟨w.heap.size + 1, 0, none⟩), .slice (some ⟨w.heap.size + 1 + 1, 0, none⟩) len len]) ∧ Below w.heap.size w w' ∧
      ∃ sv ads n, ads.length = len ∧ n ≤ len ∧ Net w' w.heap.size len sv len (ads.map nodeV) ads (lastf z len) n := by
  have HC := hide hc
  clear hc
  obtain ⟨i0, hi, hz0, hz1, hz2⟩ := info_parts info64
  have hmm := @run_makeMap Yba.prog
  go_enter Yba.func11, Yba.ntmps11
  go_wp2_with (at_make; refine wpList_make_own _ rfl _ _ 36 rfl (w.heap.size + 2) 64 i0 .nilIface 1 Yba.underlying36 hi hz0 hz1 _ _ _ len rfl rfl rfl (by rw [hz2]; omega) (by unfold maxLen; omega) (by simp) ?_)
  intro w1 ho hg
  have HR := hide (rel_start w w1 len z _ rfl rfl ho hg)
  clear ho hg
  go_wp2_with fail
  go_loopw [5, 17] (fun o i wr => ∃ (k : Nat) (sv : Value) (ads : List Addr) (n : Nat), k ≤ len ∧ i = .int .i64 k ∧ o = .slice (some ⟨w.heap.size + 1 + 1, 0, none⟩) k len ∧ Rel w wr len k z sv ads n) (fun _ i _ => len - (intOf i).toNat)
  case atStart => exact ⟨0, _, _, _, Nat.zero_le _, rfl, rfl, unhide HR⟩
  case round =>
    obtain ⟨k, sv, ads, n, hk, rfl, rfl, hr⟩ := hrel
    have HR2 := hide hr
    by_cases hlt : k < len
    · have hck : wr.cell? ⟨b, off + k, none⟩ = some (.int .u16 (z k)) := by
        rw [hr.1.below.cell (p := ⟨b, off + k, none⟩) hb]; exact unhide HC k hlt
      have S0 := hide hr.1
      have tok1 : True := trivial
      obtain ⟨sa, sl, sc, rfl⟩ : ∃ sa sl sc, sv = .slice sa sl sc := by
        rcases hr.1.nodes.2 with ⟨e, _⟩ | ⟨g, c, cur, e, _⟩
        · exact ⟨_, _, _, e⟩
        · exact ⟨_, _, _, e⟩
      clear hr HR
      go_wp2_with (at_builtin; have _t := tok1; go_must (refine wpList_append_fits _ rfl _ _ 36 rfl (w.heap.size + 2) 64 i0 1 Yba.underlying36 hi hz1 (w.heap.size + 1 + 1) k len (ads.map nodeV) rfl (((unhide S0).alloc _).alloc _).orig ⟨wr.heap.size + 1, 0, none⟩ 1 1 [nodeV ⟨wr.heap.size, 0, none⟩] rfl rfl (one_new _ _ _ _) (one_nodeV _) (by omega) ?_))
      intro w2 ho2 hg2
      have S2 := (((unhide S0).alloc _).alloc _).orig' hg2 ho2
      have c1 := S2.c1
      have c2 := S2.c2
      have HS2 := hide S2
      have hb2 : w.heap.size + 3 ≤ w2.heap.size := S2.big
      clear S2 ho2 hg2 S0 hck
      go_wp2_with (at_builtin; go_must (refine wpList_append_own_at _ rfl _ _ 36 rfl (w.heap.size + 3) 64 i0 .nilIface 1 16 Yba.underlying36 hi hz0 hz1 hz2 rfl (by decide) _ k (ads.map nodeV) rfl ((unhide HS2).alloc _).nodes ⟨w2.heap.size, 0, none⟩ 1 1 [nodeV ⟨wr.heap.size, 0, none⟩] rfl rfl (cell_one_new _ _ _) (one_nodeV _) (by unfold maxLen; omega) (by omega) (by simp; omega) ?_))
      intro v4 w4 ho4 hg4 _ _
      have S4 := ((unhide HS2).alloc _).nodes' hg4 ho4
      obtain ⟨g4, cp4, hv4⟩ : ∃ g cp, v4 = .slice (some ⟨g, 0, none⟩) (k + 1) cp := by
        rcases ho4.2 with ⟨_, e⟩ | ⟨g, c, cur, e, _⟩
        · omega
        · exact ⟨_, _, e⟩
      rw [hv4] at S4 ⊢
      clear hv4 ho4 hg4 HS2 c1 c2
      have c1 := S4.c1
      have c2 := S4.c2
      have fz := S4.frozen
      have hb4 : w.heap.size + 3 ≤ w4.heap.size := S4.big
      have HS4 := hide (S4.store (.slice (some ⟨g4, 0, none⟩) (k + 1) cp4))
      clear S4
      go_wp2_with fail
      clear c1 c2 fz
      generalize w4.setCell ⟨w.heap.size + 1, 1, none⟩ (.slice (some ⟨g4, 0, none⟩) (k + 1) cp4) = w5 at HS4 ⊢
      have c2 := (unhide HS4).c2
      go_region_with (go_at_call 14; refine (addr_any _ _).mono ?_; rintro e w6 ⟨rfl, hb6⟩; have S6 := (unhide HS4).drew.after hb6; obtain ⟨w7, hput, hidx, hg7⟩ := S6.idx.put (z k) k; have HS7 := hide (S6.index hg7 hidx); have c26 := S6.c2; clear S6 hidx hg7 hb6)
      all_goals
        go_wp2_with fail
        exact ⟨⟨k + 1, _, _, _, by omega, by go_num, rfl, rel_step (unhide HS7) (unhide HR2).2.1 (by have := (unhide HR2).2.2; split <;> omega)⟩, by simp [intOf]; omega⟩
    · go_wp2_with fail
      go_ret2
      obtain rfl : k = len := by omega
      exact ⟨rfl, (unhide HR2).1.below, sv, ads, n, (unhide HR2).2.1, (unhide HR2).2.2, (unhide HR2).net⟩

set_option maxRecDepth 100000 in
set_option maxHeartbeats 1000000 in
theorem build_none (a : Option Addr) (cap : Nat) (z : Nat → Int) (w : World) :
    Calls Yba.prog 11 #[.slice a 0 cap] w fun e w' => e = .returned (.tuple #[.pointer (some ⟨w.heap.size + 1, 0, none⟩), .slice (some ⟨w.heap.size + 1 + 1, 0, none⟩) 0 0]) ∧ Below w.heap.size w w' ∧
      ∃ sv ads n, ads.length = 0 ∧ n ≤ 0 ∧ Net w' w.heap.size 0 sv 0 (ads.map nodeV) ads (lastf z 0) n := by
  obtain ⟨i0, hi, hz0, hz1, hz2⟩ := info_parts info64
  have hmm := @run_makeMap Yba.prog
  go_enter Yba.func11, Yba.ntmps11
  go_wp2_with (at_make; refine wpList_make_own _ rfl _ _ 36 rfl (w.heap.size + 2) 64 i0 .nilIface 1 Yba.underlying36 hi hz0 hz1 _ _ _ 0 rfl rfl rfl (by omega) (by unfold maxLen; omega) (by simp) ?_)
  intro w1 ho hg
  have HR := hide (rel_start w w1 0 z _ rfl rfl ho hg)
  clear ho hg
  go_wp2_with fail
  refine wp_loop_rounds 1 ?_
  rw [rounds_succ]
  go_wp2_with fail
  go_ret2
  exact ⟨rfl, (unhide HR).1.below, _, _, _, (unhide HR).2.1, (unhide HR).2.2, (unhide HR).net⟩

theorem build_any (a : Option Addr) (len cap : Nat) (z : Nat → Int) (w : World) (hl : len ≤ 1024) (h : Row w a len z) :
    Calls Yba.prog 11 #[.slice a len cap] w fun e w' => e = .returned (.tuple #[.pointer (some ⟨w.heap.size + 1, 0, none⟩), .slice (some ⟨w.heap.size + 1 + 1, 0, none⟩) len len]) ∧ Below w.heap.size w w' ∧
      ∃ sv ads n, ads.length = len ∧ n ≤ len ∧ Net w' w.heap.size len sv len (ads.map nodeV) ads (lastf z len) n := by
  by_cases h0 : len = 0
  · subst h0; exact build_none a cap z w
  · rcases h with h | ⟨b, off, rfl, hc⟩
    · omega
    · exact build_some b off len cap z w hl hc (World.block_lt_of_cell? w _ (hc 0 (by omega)))
end Go.Proofs.Ybulkaiki.Net
