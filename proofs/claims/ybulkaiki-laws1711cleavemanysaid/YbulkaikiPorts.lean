/-
  The map 'map[netip.AddrPort]int' at addresses with no IP ('AddrPortFrom(Addr{}, p)'): its key is a struct that holds a nil pointer, so the kit's bundle of keys does not serve; here the laws are typed by hand, off the model's own text. Typed by hand.
-/
import Derived.Test.YbulkaikiRows
import Derived.WalkKit
import Derived.WalkSpells
import Derived.ProofKit
namespace Go.Proofs.Ybulkaiki.Net
open Go.ChangeShapes Go.WideShapes Go.ChangeAt Go.RowKit
open Go.MapKept
set_option linter.unusedVariables false
set_option linter.unusedSimpArgs false

/-- The key of port p. -/
def key (p : Int) : Value := .agg #[.int .u64 0, .int .u64 0, .pointer none, .int .u16 p]

theorem fields61 : ∃ q r : String, (Yba.prog.fieldsOf 61).toList = [{ name := "ip", type := 59, offset := 0, embedded := false, tag := "", pkgPath := q, byteOffset := 0 }, { name := "port", type := 34, offset := 3, embedded := false, tag := "", pkgPath := r, byteOffset := 24 }] :=
  ⟨_, _, by simp only [Program.fieldsOf, Yba.underlying61]; rfl⟩

theorem part_ip (p : Int) (w : World) : (part 59 #[.int .u64 0, .int .u64 0, .pointer none, .int .u16 p] 0).run Yba.prog w = .ok (.agg #[.int .u64 0, .int .u64 0, .pointer none]) w := by kernel_rfl
theorem part_port (p : Int) (w : World) : (part 34 #[.int .u64 0, .int .u64 0, .pointer none, .int .u16 p] 3).run Yba.prog w = .ok (.int .u16 p) w := by kernel_rfl
theorem eq_ip (w : World) : (Op.equalIn 9999 59 (.agg #[.int .u64 0, .int .u64 0, .pointer none]) (.agg #[.int .u64 0, .int .u64 0, .pointer none])).run Yba.prog w = .ok true w := by kernel_rfl

theorem eq_port (p q : Int) (w : World) : (Op.equalIn 9999 34 (.int .u16 p) (.int .u16 q)).run Yba.prog w = .ok (p == q) w := run_equalIn_int w 9998 34 .u16 .u16 p q Yba.underlying34

theorem equal_key (p q : Int) (w : World) : (Op.equal 61 (key p) (key q)).run Yba.prog w = .ok (p == q) w := by
  have hu : Yba.prog.underlying 61 = some (.struct (Yba.prog.fieldsOf 61)) := by simp [Program.fieldsOf, Yba.underlying61]
  have h := run_equalIn_struct (P := Yba.prog) w 9999 61 #[.int .u64 0, .int .u64 0, .pointer none, .int .u16 p] #[.int .u64 0, .int .u64 0, .pointer none, .int .u16 q] hu (by kernel_rfl)
  show (Op.equalIn 10000 61 _ _).run Yba.prog w = _
  unfold key
  obtain ⟨_, _, hf⟩ := fields61
  rw [h, hf]
  cases hb : (p == q) <;> simp [Op.eqFields, part_ip, part_port, eq_ip, eq_port, hb]

theorem check_key (b : Bool) (p : Int) (w : World) : (Instr.checkKey b 10000 61 (key p)).run Yba.prog w = .ok () w := by kernel_rfl

theorem same_key (p : Int) : Instr.sameBits 10000 (key p) (key p) = true := by
  unfold key
  rw [show (10000 : Nat) = 9999 + 1 from rfl]
  simp [Instr.sameBits]

theorem stays_key (p : Int) (w : World) : (Instr.keyThatStays (key p) (key p)).run Yba.prog w = .ok (key p) w := by
  simp [Instr.keyThatStays, same_key]

/-- A row of entries reads as a list of pairs: port, index. -/
def Ents (es : List MapEntry) (L : List (Int × Int)) : Prop := es.map (fun e => (e.key, e.val)) = L.map (fun x => (key x.1, Value.int .i64 x.2))

/-- The place of port p, and what lies there. -/
def find (p : Int) : List (Int × Int) → Nat → Option (Nat × Value)
  | [], _ => none
  | x :: L, i => if p == x.1 then some (i, .int .i64 x.2) else find p L (i + 1)

theorem findAsking (p : Int) (w : World) : ∀ (es : List MapEntry) (L : List (Int × Int)) (i : Nat), Ents es L → (Instr.findAsking 61 (key p) es i).run Yba.prog w = .ok (find p L i) w
  | [], [], i, _ => by simp [Instr.findAsking, find]
  | [], _ :: _, _, h => by simp [Ents] at h
  | _ :: _, [], _, h => by simp [Ents] at h
  | e :: es, x :: L, i, h => by
    simp only [Ents, List.map_cons, List.cons.injEq, Prod.mk.injEq] at h
    obtain ⟨⟨h1, h2⟩, h3⟩ := h
    simp only [Instr.findAsking, find, Sem.run_bind, h1, equal_key, Result.andThen_ok, h2]
    cases hb : (p == x.1)
    · simpa using findAsking p w es L (i + 1) h3
    · simp

theorem findNow_none (p : Int) (e : MapEntry) (es : List MapEntry) (q : Int) (h : e.key = key q) (i : Nat) (fs : Array Field) : Instr.findNow (.struct fs) (key p) (e :: es) i = none := by
  simp [Instr.findNow, h, key, Instr.sameNow]

theorem findKey (p : Int) (w : World) (es : List MapEntry) (L : List (Int × Int)) (h : Ents es L) : (Instr.findKey 61 (key p) es).run Yba.prog w = .ok (find p L 0) w := by
  cases es with
  | nil =>
    cases L with
    | nil => simp [Instr.findKey, run_underlying Yba.underlying61, Instr.findNow, find]
    | cons x L => simp [Ents] at h
  | cons e es =>
    cases L with
    | nil => simp [Ents] at h
    | cons x L =>
      have hk : e.key = key x.1 := by simp only [Ents, List.map_cons, List.cons.injEq, Prod.mk.injEq] at h; exact h.1.1
      simp [Instr.findKey, run_underlying Yba.underlying61, findNow_none p e es x.1 hk]
      exact findAsking p w (e :: es) (x :: L) 0 h

/-- What the list holds at port p. -/
def look (L : List (Int × Int)) (p : Int) : Option Int := (L.find? (fun x => p == x.1)).map (·.2)

theorem find_none {p : Int} : ∀ {L : List (Int × Int)} {i : Nat}, look L p = none → find p L i = none ∧ ∀ x ∈ L, x.1 ≠ p
  | [], _, _ => by simp [find]
  | x :: L, i, h => by
    cases hb : (p == x.1) with
    | true => simp [look, List.find?_cons, hb] at h
    | false =>
      have h' : look L p = none := by simpa [look, List.find?_cons, hb] using h
      obtain ⟨r1, r2⟩ := find_none (i := i + 1) h'
      refine ⟨by simp [find, hb, r1], fun y hy => ?_⟩
      rcases List.mem_cons.1 hy with rfl | hy
      · intro e; simp [e] at hb
      · exact r2 y hy

theorem find_some {p v : Int} : ∀ {L : List (Int × Int)} {i : Nat}, look L p = some v → ∃ L1 L2, L = L1 ++ (p, v) :: L2 ∧ find p L i = some (i + L1.length, .int .i64 v)
  | [], _, h => by simp [look] at h
  | x :: L, i, h => by
    cases hb : (p == x.1) with
    | true =>
      have hx : x.2 = v := by simpa [look, List.find?_cons, hb] using h
      have hp : p = x.1 := by simpa using hb
      refine ⟨[], L, ?_, ?_⟩
      · rw [hp, ← hx]; rfl
      · simp [find, hb, hx]
    | false =>
      have h' : look L p = some v := by simpa [look, List.find?_cons, hb] using h
      obtain ⟨L1, L2, rfl, h2⟩ := find_some (i := i + 1) h'
      refine ⟨x :: L1, L2, rfl, ?_⟩
      simp [find, hb, h2]
      omega

/-- BLOCK M IS A MAP OF n ENTRIES THAT HOLDS f p AT PORT p. -/
def Idx (w : World) (M : Nat) (f : Int → Option Int) (n : Nat) : Prop :=
  ∃ es clock L, w.heap[M]? = some (.map es clock) ∧ Ents es.toList L ∧ (L.map (·.1)).Nodup ∧ L.length = n ∧ ∀ p, look L p = f p

theorem Idx.lt {w : World} {M n : Nat} {f : Int → Option Int} (h : Idx w M f n) : M < w.heap.size := by
  obtain ⟨es, clock, L, hb, _⟩ := h
  exact (Array.getElem?_eq_some_iff.1 hb).1

theorem Idx.kept {w w' : World} {M n : Nat} {f : Int → Option Int} (h : Idx w M f n) (hb : w'.heap[M]? = w.heap[M]?) : Idx w' M f n := by
  obtain ⟨es, clock, L, h1, r⟩ := h
  exact ⟨es, clock, L, hb.trans h1, r⟩

theorem Idx.made (w : World) : Idx (w.alloc (.map #[] 0)) w.heap.size (fun _ => none) 0 :=
  ⟨#[], 0, [], (MapKept.heap_alloc w _).1, by simp [Ents], by simp, rfl, fun _ => rfl⟩

theorem zero3 (w : World) : (zeroValue 3).run Yba.prog w = .ok (.int .i64 0) w := by kernel_rfl

/-- 'v, ok := m[addr(p)]' -/
theorem Idx.lookup {w : World} {M n : Nat} {f : Int → Option Int} (h : Idx w M f n) (p : Int) :
    (Instr.lookup 40 (.map (some M)) (key p) true).run Yba.prog w = .ok (.tuple #[.int .i64 ((f p).getD 0), .bool (f p).isSome]) w := by
  obtain ⟨es, clock, L, hb, hE, _, _, hf⟩ := h
  have hfk := findKey p w es.toList L hE
  cases hl : f p with
  | none =>
    rw [(find_none ((hf p).trans hl)).1] at hfk
    simp [Instr.lookup, run_underlying Yba.underlying40, MapKept.run_getObj_map hb, check_key, hfk, zero3]
  | some v =>
    obtain ⟨L1, L2, _, h2⟩ := find_some (i := 0) ((hf p).trans hl)
    rw [h2] at hfk
    simp [Instr.lookup, run_underlying Yba.underlying40, MapKept.run_getObj_map hb, check_key, hfk]

/-- 'len(m)' -/
theorem Idx.len {w : World} {M n : Nat} {f : Int → Option Int} (h : Idx w M f n) (ty : TypeId) :
    (Builtin.len_ #[40] ty #[.map (some M)]).run Yba.prog w = .ok (.int .i64 n) w := by
  obtain ⟨es, clock, L, hb, hE, _, hn, _⟩ := h
  have hs : es.size = n := by
    have := congrArg List.length hE
    simpa [hn] using this
  simp [Builtin.len_, run_underlying Yba.underlying40, MapKept.run_getObj_map hb, goInt, hs]

theorem ents_append {es fs : List MapEntry} {L1 L2 : List (Int × Int)} (h : Ents es (L1 ++ L2)) : ∃ e1 e2, es = e1 ++ e2 ∧ Ents e1 L1 ∧ Ents e2 L2 := by
  refine ⟨es.take L1.length, es.drop L1.length, (List.take_append_drop _ _).symm, ?_, ?_⟩
  · unfold Ents at h ⊢
    rw [List.map_take, h]
    simp
  · unfold Ents at h ⊢
    rw [List.map_drop, h]
    simp

theorem look_append_none {L1 L2 : List (Int × Int)} {p : Int} (h : ∀ x ∈ L1, x.1 ≠ p) : look (L1 ++ L2) p = look L2 p := by
  induction L1 with
  | nil => rfl
  | cons x L ih =>
    have hx : (p == x.1) = false := by
      have := h x (by simp)
      simp; exact fun e => this e.symm
    show look (x :: (L ++ L2)) p = _
    unfold look
    rw [List.find?_cons, hx]
    exact ih (fun y hy => h y (by simp [hy]))

theorem look_cons_same (L : List (Int × Int)) (p v : Int) : look ((p, v) :: L) p = some v := by simp [look]
theorem look_cons_other (L : List (Int × Int)) (q v : Int) {p : Int} (h : p ≠ q) : look ((q, v) :: L) p = look L p := by
  have : (p == q) = false := by simpa using h
  simp [look, List.find?_cons, this]
theorem look_none_of {L : List (Int × Int)} {p : Int} (h : ∀ x ∈ L, x.1 ≠ p) : look L p = none := by
  have := look_append_none (L2 := []) h
  rw [List.append_nil] at this
  rw [this]; rfl

/-- What stands at another port does not hang on what stands at q. -/
theorem look_mid (L1 L2 : List (Int × Int)) (q v u : Int) {p : Int} (h : p ≠ q) : look (L1 ++ (q, v) :: L2) p = look (L1 ++ (q, u) :: L2) p := by
  induction L1 with
  | nil => rw [List.nil_append, List.nil_append, look_cons_other _ _ _ h, look_cons_other _ _ _ h]
  | cons x L ih =>
    show look (x :: (L ++ _)) p = look (x :: (L ++ _)) p
    unfold look at ih ⊢
    rw [List.find?_cons, List.find?_cons]
    cases (p == x.1)
    · exact ih
    · rfl
theorem look_mid_del (L1 L2 : List (Int × Int)) (q v : Int) {p : Int} (h : p ≠ q) : look (L1 ++ (q, v) :: L2) p = look (L1 ++ L2) p := by
  induction L1 with
  | nil => rw [List.nil_append, List.nil_append, look_cons_other _ _ _ h]
  | cons x L ih =>
    show look (x :: (L ++ _)) p = look (x :: (L ++ _)) p
    unfold look at ih ⊢
    rw [List.find?_cons, List.find?_cons]
    cases (p == x.1)
    · exact ih
    · rfl

theorem nodup_mid {L1 L2 : List (Int × Int)} {q v : Int} (h : ((L1 ++ (q, v) :: L2).map (·.1)).Nodup) : (∀ x ∈ L1, x.1 ≠ q) ∧ (∀ x ∈ L2, x.1 ≠ q) ∧ ((L1 ++ L2).map (·.1)).Nodup := by
  simp only [List.map_append, List.map_cons, List.nodup_append, List.nodup_cons, List.mem_map, List.mem_cons] at h
  obtain ⟨h1, ⟨h2, h3⟩, h4⟩ := h
  refine ⟨fun x hx e => h4 _ ⟨x, hx, rfl⟩ _ (Or.inl rfl) e, fun x hx e => h2 ⟨x, hx, e⟩, ?_⟩
  simp only [List.map_append, List.nodup_append]
  refine ⟨h1, h3, fun a ha b hb e => ?_⟩
  obtain ⟨x, hx, rfl⟩ := List.mem_map.1 ha
  obtain ⟨y, hy, rfl⟩ := List.mem_map.1 hb
  exact h4 _ ⟨x, hx, rfl⟩ _ (Or.inr ⟨y, hy, rfl⟩) e

theorem modify_mid {α : Type} (f : α → α) (x : α) (l2 : List α) : ∀ l1 : List α, (l1 ++ x :: l2).modify l1.length f = l1 ++ f x :: l2
  | [] => by simp
  | y :: l1 => by
    have := modify_mid f x l2 l1
    simpa using this

theorem grown_set {w : World} {M : Nat} {o o' : Obj} (hb : w.heap[M]? = some o) : w.grownBy { w with heap := w.heap.setIfInBounds M o' } (some M) :=
  ⟨rfl, rfl, rfl, by simp, fun k _ hk => (heap_set hb).2 k (fun e => hk (by rw [e]))⟩

/-- 'm[addr(p)] = i' -/
theorem Idx.put {w : World} {M n : Nat} {f : Int → Option Int} (h : Idx w M f n) (p i : Int) :
    ∃ w', (Instr.mapUpdate 40 (.map (some M)) (key p) (.int .i64 i)).run Yba.prog w = .ok () w' ∧
      Idx w' M (fun x => if x = p then some i else f x) (if (f p).isSome then n else n + 1) ∧ w.grownBy w' (some M) := by
  obtain ⟨es, clock, L, hb, hE, hN, hn, hf⟩ := h
  have hfk := findKey p w es.toList L hE
  cases hl : f p with
  | none =>
    obtain ⟨hnone, hno⟩ := find_none (i := 0) ((hf p).trans hl)
    rw [hnone] at hfk
    refine ⟨{ w with heap := w.heap.setIfInBounds M (.map (es.push { key := key p, val := .int .i64 i, born := clock }) (clock + 1)) }, ?_, ⟨_, _, L ++ [(p, i)], (heap_set hb).1, ?_, ?_, ?_, ?_⟩, grown_set hb⟩
    · simp [Instr.mapUpdate, run_underlying Yba.underlying40, MapKept.run_getObj_map hb, check_key, hfk, MapKept.run_setObj_map _ hb]
    · unfold Ents at hE ⊢
      simp [hE]
    · rw [List.map_append, List.nodup_append]
      refine ⟨hN, by simp, fun a ha b hb' e => ?_⟩
      obtain ⟨x, hx, rfl⟩ := List.mem_map.1 ha
      simp at hb'
      exact hno x hx (e.trans hb')
    · simp [hn]
    · intro q
      by_cases hq : q = p
      · subst hq
        rw [look_append_none hno]; simp [look_cons_same]
      · show _ = (if q = p then _ else _); rw [if_neg hq, ← hf q, look_mid_del L [] p i hq, List.append_nil]
  | some v =>
    obtain ⟨L1, L2, rfl, h2⟩ := find_some (i := 0) ((hf p).trans hl)
    rw [h2] at hfk
    obtain ⟨n1, n2, n3⟩ := nodup_mid hN
    obtain ⟨e1, e2, he, hE1, hE2⟩ := ents_append (fs := []) hE
    have hl1 : e1.length = L1.length := by simpa using congrArg List.length hE1
    cases e2 with
    | nil => simp [Ents] at hE2
    | cons e e2 =>
      have hE2' := hE2
      simp only [Ents, List.map_cons, List.cons.injEq, Prod.mk.injEq] at hE2'
      obtain ⟨⟨k1, k2⟩, k3⟩ := hE2'
      have hget : es[L1.length]? = some e := by
        rw [← Array.getElem?_toList, he, ← hl1]; simp
      refine ⟨{ w with heap := w.heap.setIfInBounds M (.map (es.modify L1.length fun e => { e with key := key p, val := .int .i64 i }) clock) }, ?_, ⟨_, _, L1 ++ (p, i) :: L2, (heap_set hb).1, ?_, ?_, ?_, ?_⟩, grown_set hb⟩
      · simp [Instr.mapUpdate, run_underlying Yba.underlying40, MapKept.run_getObj_map hb, check_key, hfk, MapKept.run_setObj_map _ hb, hget, k1, stays_key]
      · unfold Ents at hE1 ⊢
        rw [Array.toList_modify, he, ← hl1]
        rw [modify_mid]
        simp [hE1, k3]
      · have : ((L1 ++ (p, i) :: L2).map (·.1)) = ((L1 ++ (p, v) :: L2).map (·.1)) := by simp
        rw [this]; exact hN
      · simpa using hn
      · intro q
        by_cases hq : q = p
        · subst hq
          rw [look_append_none n1]; simp [look_cons_same]
        · show _ = (if q = p then _ else _); rw [if_neg hq, ← hf q]; exact look_mid L1 L2 p i v hq

/-- 'delete(m, addr(p))' -/
theorem Idx.del {w : World} {M n : Nat} {f : Int → Option Int} (h : Idx w M f n) (p : Int) (ty : TypeId) :
    ∃ w', (Builtin.delete_ #[40, 61] ty #[.map (some M), key p]).run Yba.prog w = .ok (.tuple #[]) w' ∧
      Idx w' M (fun x => if x = p then none else f x) (if (f p).isSome then n - 1 else n) ∧ ((f p).isSome = true → 1 ≤ n) ∧ w.grownBy w' (some M) := by
  obtain ⟨es, clock, L, hb, hE, hN, hn, hf⟩ := h
  have hfk := findKey p w es.toList L hE
  cases hl : f p with
  | none =>
    obtain ⟨hnone, hno⟩ := find_none (i := 0) ((hf p).trans hl)
    rw [hnone] at hfk
    refine ⟨{ w with heap := w.heap.setIfInBounds M (.map es clock) }, ?_, ⟨_, _, L, (heap_set hb).1, hE, hN, by simpa using hn, ?_⟩, by simp, grown_set hb⟩
    · simp [Builtin.delete_, run_underlying Yba.underlying40, MapKept.run_getObj_map hb, check_key, hfk, MapKept.run_setObj_map _ hb]
    · intro q
      by_cases hq : q = p
      · subst hq; simp [look_none_of hno]
      · show _ = (if q = p then _ else _); rw [if_neg hq, hf q]
  | some v =>
    obtain ⟨L1, L2, rfl, h2⟩ := find_some (i := 0) ((hf p).trans hl)
    rw [h2] at hfk
    obtain ⟨n1, n2, n3⟩ := nodup_mid hN
    obtain ⟨e1, e2, he, hE1, hE2⟩ := ents_append (fs := []) hE
    have hl1 : e1.length = L1.length := by simpa using congrArg List.length hE1
    cases e2 with
    | nil => simp [Ents] at hE2
    | cons e e2 =>
      have hE2' := hE2
      simp only [Ents, List.map_cons, List.cons.injEq, Prod.mk.injEq] at hE2'
      obtain ⟨⟨k1, k2⟩, k3⟩ := hE2'
      refine ⟨{ w with heap := w.heap.setIfInBounds M (.map (es.eraseIdxIfInBounds L1.length) clock) }, ?_, ⟨_, _, L1 ++ L2, (heap_set hb).1, ?_, n3, ?_, ?_⟩, ?_, grown_set hb⟩
      · simp [Builtin.delete_, run_underlying Yba.underlying40, MapKept.run_getObj_map hb, check_key, hfk, MapKept.run_setObj_map _ hb]
      · unfold Ents at hE1 ⊢
        rw [Array.toList_eraseIdxIfInBounds, he, ← hl1]
        simp [List.eraseIdx_append_of_length_le, hE1, k3]
      · simp at hn ⊢; omega
      · intro q
        by_cases hq : q = p
        · subst hq
          rw [look_append_none n1]; simp [look_none_of n2]
        · show _ = (if q = p then _ else _); rw [if_neg hq, ← hf q]; exact (look_mid_del L1 L2 p v hq).symm
      · intro _; simp at hn; omega
end Go.Proofs.Ybulkaiki.Net
