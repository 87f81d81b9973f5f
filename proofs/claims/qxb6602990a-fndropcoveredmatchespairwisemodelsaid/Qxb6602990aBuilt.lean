/-
  The trees of all queue groups, while they are built; the row that is written in place.
-/
import Derived.Test.Qxb6602990aEntry
namespace Go.Proofs.Qxb6602990a
open Go.RowKit Pl

/-- The subjects of one queue group. -/
def subsQ (q : Bs) (es : List Ent) : List (List Bs) := (es.filter fun e => e.q == q).map Ent.x

theorem subsQ_append (q : Bs) (es : List Ent) (e : Ent) : subsQ q (es ++ [e]) = if e.q = q then subsQ q es ++ [e.x] else subsQ q es := by
  unfold subsQ
  rw [List.filter_append]
  by_cases h : e.q = q <;> simp [h]

theorem mem_subsQ {q : Bs} {es : List Ent} {x : List Bs} : x ∈ subsQ q es ↔ ∃ e ∈ es, e.q = q ∧ e.x = x := by
  unfold subsQ
  simp only [List.mem_map, List.mem_filter, beq_iff_eq]
  constructor
  · rintro ⟨e, ⟨h1, h2⟩, h3⟩; exact ⟨e, h1, h2, h3⟩
  · rintro ⟨e, h1, h2, h3⟩; exact ⟨e, ⟨h1, h2⟩, h3⟩

/-- What dropCovered asks of an entry. -/
def covB (es : List Ent) (e : Ent) : Bool := anyC e.x (subsQ [] es) e.q.isEmpty || (!e.q.isEmpty && anyC e.x (subsQ e.q es) true)

theorem covB_any (es : List Ent) (e : Ent) : covB es e = es.any fun f => allowsB f e := by
  rw [Bool.eq_iff_iff]
  unfold covB
  simp only [Bool.or_eq_true, Bool.and_eq_true, Bool.not_eq_true', anyC_iff, List.any_eq_true]
  constructor
  · rintro (⟨x, hx, h1, h2⟩ | ⟨hq, x, hx, h1, h2⟩)
    · obtain ⟨f, hf, hfq, rfl⟩ := mem_subsQ.1 hx
      refine ⟨f, hf, ?_⟩
      unfold allowsB
      simp only [Bool.and_eq_true, Bool.not_eq_true', Bool.and_eq_false_imp, beq_iff_eq, beq_eq_false_iff_ne, ne_eq, Bool.or_eq_true]
      refine ⟨⟨fun e1 e2 => h1 ⟨by rw [← e2, hfq]; rfl, e1⟩, .inl (by rw [hfq]; rfl)⟩, h2⟩
    · obtain ⟨f, hf, hfq, rfl⟩ := mem_subsQ.1 hx
      refine ⟨f, hf, ?_⟩
      unfold allowsB
      simp only [Bool.and_eq_true, Bool.not_eq_true', Bool.and_eq_false_imp, beq_iff_eq, beq_eq_false_iff_ne, ne_eq, Bool.or_eq_true]
      exact ⟨⟨fun e1 _ => h1 ⟨trivial, e1⟩, .inr hfq⟩, h2⟩
  · rintro ⟨f, hf, ha⟩
    unfold allowsB at ha
    simp only [Bool.and_eq_true, Bool.not_eq_true', Bool.and_eq_false_imp, beq_iff_eq, beq_eq_false_iff_ne, ne_eq, Bool.or_eq_true] at ha
    obtain ⟨⟨h1, h2⟩, h3⟩ := ha
    by_cases hfq : f.q = []
    · left
      refine ⟨f.x, mem_subsQ.2 ⟨f, hf, hfq, rfl⟩, ?_, h3⟩
      rintro ⟨e1, e2⟩
      exact h1 e2 (by rw [hfq]; exact (List.isEmpty_iff.1 e1).symm)
    · right
      have hq : f.q = e.q := h2.resolve_left (fun h => hfq (List.isEmpty_iff.1 h))
      refine ⟨?_, f.x, mem_subsQ.2 ⟨f, hf, hq, rfl⟩, fun h => h1 h.2 hq, h3⟩
      rw [← hq]
      cases hc : f.q with
      | nil => exact absurd hc hfq
      | cons a b => rfl

/-- What lies in memory while the trees are built. W: the world in which the call began; pl: the plain tree's root; rq: the map of the queue groups. -/
structure Built (W wr : World) (pl rq : Nat) (es : List Ent) (T : Tr) : Prop where
  forest : Forest wr T
  plain : T.A [] [] = some pl
  map : MapIs wr rq (fun q => if q = [] then none else T.A q [])
  repr : ∀ q, (T.A q []).isSome = true → ReprT T q (subsQ q es)
  none : ∀ q, T.A q [] = Option.none → subsQ q es = []
  below : Below W.heap.size W wr
  own : ∀ k, Own T k → W.heap.size ≤ k ∧ k ≠ rq
  base : W.heap.size ≤ rq
  lt : rq < wr.heap.size

theorem mapIs_same {w w' : World} {r : Nat} {g g' : Bs → Option Nat} (h : MapIs w r g) (e : w'.heap[r]? = w.heap[r]?) (hg : g' = g) : MapIs w' r g' := by
  rw [hg]; exact mapIs_of_block h e

theorem Built.drewN {W wr : World} {pl rq : Nat} {es : List Ent} {T : Tr} (h : Built W wr pl rq es T) (n : Nat) : Built W (wr.drewN n) pl rq es T :=
  ⟨h.forest.drewN n, h.plain, h.map, h.repr, h.none, below_drewN h.below n, h.own, h.base, h.lt⟩

/-- A subject is added to a tree that is there. -/
theorem Built.added {W wr w' : World} {pl rq : Nat} {es : List Ent} {T T' : Tr} (h : Built W wr pl rq es T) {e : Ent} {a : Nat} (ha : T.A e.q [] = some a) (hA : Added e.q e.x T T' wr w') : Built W w' pl rq (es ++ [e]) T' := by
  have hroot : ∀ q, T'.A q [] = T.A q [] := by
    intro q
    cases hq : T.A q [] with
    | some b => exact hA.old _ _ _ hq
    | none =>
      have hd := hA.dom q []
      have hne : q ≠ e.q := fun eq => by rw [eq, ha] at hq; cases hq
      rw [hq] at hd
      simp [hne] at hd
      exact hd
  have hrq : ¬ Own T rq := fun ho => (h.own rq ho).2 rfl
  have hnew : wr.heap.size ≤ w'.heap.size := hA.kept.size
  refine ⟨hA.forest, by rw [hroot]; exact h.plain, ?_, ?_, ?_, ?_, ?_, h.base, Nat.lt_of_lt_of_le h.lt hnew⟩
  · refine mapIs_same h.map (hA.kept.block rq h.lt hrq) ?_
    funext q; rw [hroot]
  · intro q hq
    rw [hroot] at hq
    rw [subsQ_append]
    by_cases e1 : e.q = q
    · rw [if_pos e1]; subst e1; exact hA.repr (h.repr _ hq)
    · rw [if_neg e1]; exact hA.repr_other (Ne.symm e1) (h.repr _ hq)
  · intro q hq
    rw [hroot] at hq
    rw [subsQ_append, if_neg (fun e1 => by rw [← e1, ha] at hq; cases hq)]
    exact h.none q hq
  · exact h.below.trans ⟨hA.kept.os, hA.kept.tape, hA.kept.output, hA.kept.size, fun k hk => hA.kept.block k (Nat.lt_of_lt_of_le hk h.below.size) (fun ho => by have := (h.own k ho).1; omega)⟩
  · intro k hk
    rcases hA.own k hk with h1 | h1
    · exact h.own k h1
    · exact ⟨Nat.le_trans h.below.size h1, fun e1 => by have := h.lt; omega⟩

/-- A tree is made for a new queue group. -/
theorem Built.made {W wr w2 : World} {pl rq : Nat} {es : List Ent} {T : Tr} (h : Built W wr pl rq es T) {q : Bs} (hq0 : q ≠ []) (hq : T.A q [] = Option.none)
    (hm : MapIs w2 rq (putG (fun q => if q = [] then Option.none else T.A q []) q wr.heap.size)) (hg : (wr.alloc node0).grownBy w2 (some rq)) (hz : w2.heap.size = (wr.alloc node0).heap.size) :
    Built W w2 pl rq es (T.root q wr.heap.size) := by
  have hlt := h.lt
  have hz' : w2.heap.size = wr.heap.size + 1 := by rw [hz]; simp
  have hblk : ∀ k, k < wr.heap.size → k ≠ rq → w2.heap[k]? = wr.heap[k]? := fun k hk hne => by
    rw [hg.block k (by simp; omega) (fun e => hne (by injection e))]; exact Below.heap_alloc _ _ _ hk
  refine ⟨?_, ?_, ?_, ?_, ?_, ?_, ?_, h.base, by omega⟩
  · refine h.forest.root hq (Nat.le_refl _) ?_ ?_
    · rw [hg.block wr.heap.size (by simp) (fun e => by injection e with e; omega)]
      exact (MapKept.heap_alloc wr _).1
    · intro k hk; exact hblk k (h.forest.own_lt hk) (h.own k hk).2
  · simp only [Tr.root]; rw [if_neg (fun e => hq0 e.1.symm)]; exact h.plain
  · refine mapIs_same hm rfl ?_
    funext q'
    simp only [Tr.root, putG]
    by_cases e : q' = q
    · subst e; simp [hq0]
    · simp [e]
  · intro q' hq'
    by_cases e : q' = q
    · subst e; rw [h.none _ hq]; exact repr_root h.forest hq
    · exact repr_root_other e (h.repr q' (by simpa [Tr.root, e] using hq'))
  · intro q' hq'
    by_cases e : q' = q
    · subst e; simp [Tr.root] at hq'
    · exact h.none q' (by simpa [Tr.root, e] using hq')
  · refine h.below.trans ⟨hg.os, hg.tape, hg.output, by omega, fun k hk => ?_⟩
    have := h.base
    exact hblk k (Nat.lt_of_lt_of_le hk h.below.size) (by omega)
  · intro k hk
    rcases own_root hk with rfl | hk
    · exact ⟨h.below.size, by omega⟩
    · exact h.own k hk

theorem Built.look {W wr : World} {pl rq : Nat} {es : List Ent} {T : Tr} (h : Built W wr pl rq es T) {q : Bs} (hq : q ≠ []) : (Instr.lookup 51 (.map (some rq)) (S q) false).run Try.prog wr = .ok (ptrO (T.A q [])) wr := by
  have := run_look h.map q
  simpa [hq] using this

/-! ### The row that is written in place -/

theorem rowAt_of_block {w w' : World} {b : Nat} {vs : List Bs} (h : RowAt w b vs) (e : w'.heap[b]? = w.heap[b]?) : RowAt w' b vs := e.trans h

theorem info9' : ∃ i, Try.prog.info? 9 = some i ∧ i.size = 1 := by
  have := info9
  obtain ⟨i, h1, h2⟩ := Option.map_eq_some_iff.1 this
  simp only [Prod.mk.injEq] at h2
  exact ⟨i, h1, h2.2.1⟩

theorem run_app {w : World} {b j n c : Nat} {vs : List Bs} (hrow : RowAt w b vs) (hvs : vs.length = n) (hj : j < n) {ad : Addr} {l : Bs} (hc : w.cell? (ad.add 0) = some (S l)) (ty : TypeId) :
    ∃ w', (Builtin.append_ #[22, 22] ty #[.slice (some ⟨b, 0, none⟩) j n, .slice (some ad) 1 c]).run Try.prog w = .ok (.slice (some ⟨b, 0, none⟩) (j + 1) n) w' ∧ RowAt w' b (vs.set j l) ∧ KeptBut (· = b) w w' ∧ w'.heap.size = w.heap.size := by
  obtain ⟨i, hi, hsz⟩ := info9'
  have hr := run_append_room (P := Try.prog) w 22 ty 9 i Try.underlying22 hi b j n (vs.map S).toArray hrow ad 1 c [S l] (by simp [hsz]) (by
    intro k u hk
    cases k with
    | zero => simp at hk; rw [← hk]; exact hc
    | succ k => simp at hk) (by simp [Value.oneCell']) (by omega) (by simp [hsz, hvs]; omega)
  refine ⟨_, hr, ?_, ?_, ?_⟩
  · unfold RowAt
    rw [setRow_heap w b _ _ 9 (0, 0) hrow]
    congr 2
    simp only [hsz, Nat.mul_one, List.length_singleton]
    rw [List.set_eq_take_append_cons_drop, if_pos (by omega)]
    simp [List.map_take, List.map_drop]
  · exact ⟨rfl, rfl, rfl, by simp [World.setRow], fun k _ hk => setRow_other w b k _ hk⟩
  · simp [World.setRow]

/-- The append at the operation, for the walk. -/
theorem wp_app {ops : Array Oper} {rest : List Oper} {o : Oper} {a : Act} {Q : Exit → Act → World → Prop} (w : World)
    (hg : o.guard = none) (s x : Operand) (hop : o.op = Op.call { callee := Callee.builtin Builtin.append, args := #[s, x], argTypes := #[22, 22] })
    (b j n c : Nat) (vs : List Bs) (ad : Addr) (l : Bs) (hs : a.eval s = .slice (some ⟨b, 0, none⟩) j n) (hx : a.eval x = .slice (some ad) 1 c)
    (hrow : RowAt w b vs) (hvs : vs.length = n) (hj : j < n) (hc : w.cell? (ad.add 0) = some (S l))
    (hK : ∀ w', RowAt w' b (vs.set j l) → KeptBut (· = b) w w' → w'.heap.size = w.heap.size → wpList Try.prog ops Q rest (a.put o.dst (.slice (some ⟨b, 0, none⟩) (j + 1) n)) w') :
    wpList Try.prog ops Q (o :: rest) a w := by
  refine wpList_plain hg fun K hK' => ?_
  obtain ⟨w', hrun, r1, r2, r3⟩ := run_app (c := c) hrow hvs hj hc o.type
  unfold Oper.wp
  simp [execOp, hop, resolve, invoke, builtin, hs, hx, hrun, Result.andThen]
  exact hK' _ _ (hK w' r1 r2 r3)
end Go.Proofs.Qxb6602990a
