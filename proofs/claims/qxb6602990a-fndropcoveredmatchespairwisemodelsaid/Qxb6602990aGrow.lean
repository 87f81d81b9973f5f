/-
  The forest grows by a node; a node is marked.
-/
import Derived.Test.Qxb6602990aCovers
namespace Go.Proofs.Qxb6602990a
open Go.RowKit Pl

/-- Of what was there nothing has turned but blocks of F. -/
structure KeptBut (F : Nat → Prop) (w w' : World) : Prop where
  os : w'.os = w.os
  tape : w'.tape = w.tape
  output : w'.output = w.output
  size : w.heap.size ≤ w'.heap.size
  block : ∀ k, k < w.heap.size → ¬ F k → w'.heap[k]? = w.heap[k]?

theorem KeptBut.refl (F : Nat → Prop) (w : World) : KeptBut F w w := ⟨rfl, rfl, rfl, Nat.le_refl _, fun _ _ _ => rfl⟩
theorem KeptBut.drewN {F : Nat → Prop} {w w' : World} (h : KeptBut F w w') (n : Nat) : KeptBut F w (w'.drewN n) := ⟨h.os, h.tape, h.output, h.size, h.block⟩
theorem KeptBut.trans {F : Nat → Prop} {a b c : World} (h : KeptBut F a b) (k : KeptBut F b c) : KeptBut F a c :=
  ⟨k.os.trans h.os, k.tape.trans h.tape, k.output.trans h.output, Nat.le_trans h.size k.size, fun i hi hn => (k.block i (Nat.lt_of_lt_of_le hi h.size) hn).trans (h.block i hi hn)⟩
theorem KeptBut.mono {F G : Nat → Prop} {w w' : World} (h : KeptBut F w w') (hg : ∀ k, k < w.heap.size → F k → G k) : KeptBut G w w' :=
  ⟨h.os, h.tape, h.output, h.size, fun k hk hn => h.block k hk fun hf => hn (hg k hk hf)⟩
theorem KeptBut.cell {F : Nat → Prop} {w w' : World} (h : KeptBut F w w') {p : Addr} (hp : p.block < w.heap.size) (hn : ¬ F p.block) : w'.cell? p = w.cell? p := World.cell?_of_block (w := w) (h.block p.block hp hn)

/-- A node more: z's, under p. -/
def Tr.grow (T : Tr) (q : Bs) (p : List Bs) (z : Bs) (c r : Nat) : Tr where
  A q' p' := if q' = q ∧ p' = z :: p then some c else T.A q' p'
  B q' p' := if q' = q ∧ p' = z :: p then none else if q' = q ∧ p' = p then some r else T.B q' p'
  E q' p' := if q' = q ∧ p' = z :: p then false else T.E q' p'

theorem Forest.block_ne {w : World} {T : Tr} (h : Forest w T) {q q' : Bs} {p p' : List Bs} {a b r : Nat} (ha : T.A q p = some a) (hb : T.A q' p' = some b) (hr : T.B q' p' = some r) : a ≠ r := by
  rintro rfl
  obtain ⟨es, c, h1, _⟩ := h.map q' p' b a hb hr
  rw [h.node q p a ha] at h1
  cases h1

theorem Forest.node_lt {w : World} {T : Tr} (h : Forest w T) {q : Bs} {p : List Bs} {a : Nat} (ha : T.A q p = some a) : a < w.heap.size := h.own_lt ⟨q, p, a, ha, .inl rfl⟩
theorem Forest.map_lt {w : World} {T : Tr} (h : Forest w T) {q : Bs} {p : List Bs} {a r : Nat} (ha : T.A q p = some a) (hr : T.B q p = some r) : r < w.heap.size := h.own_lt ⟨q, p, a, ha, .inr hr⟩

theorem Forest.grow {w w2 : World} {T : Tr} (hF : Forest w T) {q : Bs} {p : List Bs} {z : Bs} {a c r : Nat} (ha : T.A q p = some a) (hn : T.A q (z :: p) = none)
    (hc : w.heap.size ≤ c) (hr : T.B q p = some r ∨ (T.B q p = none ∧ w.heap.size ≤ r))
    (n1 : w2.heap[a]? = some (.cells #[.map (some r), .bool (T.E q p)] 53)) (n2 : w2.heap[c]? = some (.cells #[.map none, .bool false] 53))
    (n3 : MapIs w2 r (putG (fun t => T.A q (t :: p)) z c)) (n4 : ∀ k, k < w.heap.size → k ≠ a → k ≠ r → w2.heap[k]? = w.heap[k]?) :
    Forest w2 (T.grow q p z c r) := by
  have hpz : p ≠ z :: p := fun e => by have := congrArg List.length e; simp at this
  have hra : ∀ {q' p' b}, T.A q' p' = some b → b ≠ r := by
    intro q' p' b hb e
    subst e
    rcases hr with hr | ⟨_, hr⟩
    · exact hF.block_ne hb ha hr rfl
    · have := hF.node_lt hb; omega
  have hrr : ∀ {q' p' b r'}, T.A q' p' = some b → T.B q' p' = some r' → ¬ (q' = q ∧ p' = p) → r' ≠ r := by
    intro q' p' b r' hb hr' hne e
    subst e
    rcases hr with hr | ⟨_, hr⟩
    · exact hne (hF.injB q' p' q p b a r' hb ha hr' hr)
    · have := hF.map_lt hb hr'; omega
  refine ⟨?_, ?_, ?_, ?_, ?_, ?_⟩
  · intro q' p' b hb
    simp only [Tr.grow] at hb ⊢
    by_cases e : q' = q ∧ p' = z :: p
    · rw [if_pos e] at hb ⊢
      rw [if_pos e]
      cases hb; exact n2
    · rw [if_neg e] at hb ⊢
      rw [if_neg e]
      by_cases e2 : q' = q ∧ p' = p
      · rw [if_pos e2]
        obtain ⟨rfl, rfl⟩ := e2
        rw [ha] at hb; cases hb
        exact n1
      · rw [if_neg e2, n4 b (hF.node_lt hb) (fun eq => by subst eq; exact e2 (hF.injA _ _ _ _ _ hb ha)) (hra hb)]
        exact hF.node q' p' b hb
  · intro q' p' b hb hB t
    simp only [Tr.grow] at hb hB ⊢
    by_cases e : q' = q ∧ p' = z :: p
    · obtain ⟨rfl, rfl⟩ := e
      rw [if_neg (fun h => by have := congrArg List.length h.2; simp at this)]
      cases ht : T.A q' (t :: z :: p) with
      | none => rfl
      | some x => obtain ⟨y, hy⟩ := hF.closed _ _ _ _ ht; rw [hn] at hy; cases hy
    · rw [if_neg e] at hb hB
      by_cases e2 : q' = q ∧ p' = p
      · rw [if_pos e2] at hB; cases hB
      · rw [if_neg e2] at hB
        rw [if_neg (fun h => e2 ⟨h.1, by injection h.2⟩)]
        exact hF.nomap q' p' b hb hB t
  · intro q' p' b r' hb hB
    simp only [Tr.grow] at hb hB ⊢
    by_cases e : q' = q ∧ p' = z :: p
    · rw [if_pos e] at hB; cases hB
    · rw [if_neg e] at hb hB
      by_cases e2 : q' = q ∧ p' = p
      · rw [if_pos e2] at hB
        cases hB
        obtain ⟨rfl, rfl⟩ := e2
        have hfun : (fun t => if q' = q' ∧ t :: p' = z :: p' then some c else T.A q' (t :: p')) = putG (fun t => T.A q' (t :: p')) z c := by
          funext t
          simp [putG]
        rw [hfun]
        exact n3
      · rw [if_neg e2] at hB
        have hfun : (fun t => if q' = q ∧ t :: p' = z :: p then some c else T.A q' (t :: p')) = (fun t => T.A q' (t :: p')) := by
          funext t
          rw [if_neg (fun h => e2 ⟨h.1, by injection h.2⟩)]
        rw [hfun]
        obtain ⟨es, k, h1, h2⟩ := hF.map q' p' b r' hb hB
        exact ⟨es, k, by rw [n4 r' (hF.map_lt hb hB) (fun e => hF.block_ne ha hb hB e.symm) (hrr hb hB e2)]; exact h1, h2⟩
  · intro q' p' t b hb
    simp only [Tr.grow] at hb ⊢
    by_cases e : q' = q ∧ p' = z :: p
    · exact ⟨c, if_pos e⟩
    · rw [if_neg e]
      by_cases e2 : q' = q ∧ t :: p' = z :: p
      · obtain ⟨rfl, e2⟩ := e2
        injection e2 with _ e3
        subst e3
        exact ⟨a, ha⟩
      · rw [if_neg e2] at hb
        exact hF.closed q' p' t b hb
  · intro q1 p1 q2 p2 b h1 h2
    simp only [Tr.grow] at h1 h2
    by_cases e1 : q1 = q ∧ p1 = z :: p
    · rw [if_pos e1] at h1; cases h1
      by_cases e2 : q2 = q ∧ p2 = z :: p
      · exact ⟨e1.1.trans e2.1.symm, e1.2.trans e2.2.symm⟩
      · rw [if_neg e2] at h2; have := hF.node_lt h2; omega
    · rw [if_neg e1] at h1
      by_cases e2 : q2 = q ∧ p2 = z :: p
      · rw [if_pos e2] at h2; cases h2; have := hF.node_lt h1; omega
      · rw [if_neg e2] at h2; exact hF.injA _ _ _ _ _ h1 h2
  · intro q1 p1 q2 p2 b1 b2 r' h1 h2 hB1 hB2
    simp only [Tr.grow] at h1 h2 hB1 hB2
    by_cases e1 : q1 = q ∧ p1 = z :: p
    · rw [if_pos e1] at hB1; cases hB1
    · by_cases e2 : q2 = q ∧ p2 = z :: p
      · rw [if_pos e2] at hB2; cases hB2
      · rw [if_neg e1] at h1 hB1
        rw [if_neg e2] at h2 hB2
        by_cases f1 : q1 = q ∧ p1 = p
        · rw [if_pos f1] at hB1; cases hB1
          by_cases f2 : q2 = q ∧ p2 = p
          · exact ⟨f1.1.trans f2.1.symm, f1.2.trans f2.2.symm⟩
          · rw [if_neg f2] at hB2; exact (hrr h2 hB2 f2 rfl).elim
        · rw [if_neg f1] at hB1
          by_cases f2 : q2 = q ∧ p2 = p
          · rw [if_pos f2] at hB2; cases hB2; exact (hrr h1 hB1 f1 rfl).elim
          · rw [if_neg f2] at hB2; exact hF.injB _ _ _ _ _ _ _ h1 h2 hB1 hB2

/-- A subject ends there. -/
def Tr.mark (T : Tr) (q : Bs) (p : List Bs) : Tr := { T with E := fun q' p' => if q' = q ∧ p' = p then true else T.E q' p' }

theorem Forest.mark {w w2 : World} {T : Tr} (hF : Forest w T) {q : Bs} {p : List Bs} {a : Nat} (ha : T.A q p = some a)
    (n1 : w2.heap[a]? = some (.cells #[.map (T.B q p), .bool true] 53)) (n4 : ∀ k, k ≠ a → w2.heap[k]? = w.heap[k]?) : Forest w2 (T.mark q p) := by
  refine ⟨?_, hF.nomap, ?_, hF.closed, hF.injA, hF.injB⟩
  · intro q' p' b hb
    simp only [Tr.mark] at hb ⊢
    by_cases e : q' = q ∧ p' = p
    · rw [if_pos e]
      obtain ⟨rfl, rfl⟩ := e
      rw [ha] at hb; cases hb
      exact n1
    · rw [if_neg e, n4 b (fun eq => by subst eq; exact e (hF.injA _ _ _ _ _ hb ha))]
      exact hF.node q' p' b hb
  · intro q' p' b r hb hB
    obtain ⟨es, k, h1, h2⟩ := hF.map q' p' b r hb hB
    exact ⟨es, k, by rw [n4 r (fun e => hF.block_ne ha hb hB e.symm)]; exact h1, h2⟩

/-- Behind some rounds of add: T' is T with at most the path's nodes more. -/
structure Grew (q : Bs) (p : List Bs) (T T' : Tr) (w w' : World) : Prop where
  forest : Forest w' T'
  old : ∀ q' p' a, T.A q' p' = some a → T'.A q' p' = some a ∧ T'.E q' p' = T.E q' p'
  dom : ∀ q' p', (T'.A q' p').isSome = ((T.A q' p').isSome || (decide (q' = q) && decide (p' <:+ p)))
  fresh : ∀ q' p', (T.A q' p').isSome = false → (T'.A q' p').isSome = true → T'.E q' p' = false
  kept : KeptBut (Own T) w w'
  own : ∀ k, Own T' k → Own T k ∨ w.heap.size ≤ k

theorem suffix_cons {z : Bs} {p p' : List Bs} : p' <:+ z :: p ↔ p' = z :: p ∨ p' <:+ p := List.suffix_cons_iff

theorem Grew.start {q : Bs} {T : Tr} {w : World} {a : Nat} (hF : Forest w T) (ha : T.A q [] = some a) : Grew q [] T T w w := by
  refine ⟨hF, fun _ _ _ h => ⟨h, rfl⟩, ?_, ?_, KeptBut.refl _ _, fun _ h => .inl h⟩
  · intro q' p'
    by_cases e : q' = q ∧ p' = []
    · obtain ⟨rfl, rfl⟩ := e; simp [ha]
    · have : (decide (q' = q) && decide (p' <:+ [])) = false := by
        simpa [List.suffix_nil] using e
      rw [this, Bool.or_false]
  · intro q' p' h1 h2; rw [h1] at h2; cases h2

theorem Grew.drewN {q : Bs} {p : List Bs} {T T' : Tr} {w w' : World} (h : Grew q p T T' w w') (n : Nat) : Grew q p T T' w (w'.drewN n) :=
  ⟨h.forest.drewN n, h.old, h.dom, h.fresh, h.kept.drewN n, h.own⟩

/-- The next node was there. -/
theorem Grew.found {q : Bs} {p : List Bs} {T T' : Tr} {w w' : World} (h : Grew q p T T' w w') {z : Bs} {b : Nat} (hb : T'.A q (z :: p) = some b) : Grew q (z :: p) T T' w w' := by
  refine ⟨h.forest, h.old, ?_, h.fresh, h.kept, h.own⟩
  intro q' p'
  by_cases e : q' = q ∧ p' = z :: p
  · obtain ⟨rfl, rfl⟩ := e; rw [hb]; simp
  · rw [h.dom]
    have : (decide (q' = q) && decide (p' <:+ p)) = (decide (q' = q) && decide (p' <:+ z :: p)) := by
      rw [Bool.eq_iff_iff]
      simp only [Bool.and_eq_true, decide_eq_true_eq, suffix_cons]
      constructor
      · rintro ⟨h1, h2⟩; exact ⟨h1, .inr h2⟩
      · rintro ⟨h1, h2⟩; exact ⟨h1, h2.resolve_left fun h3 => e ⟨h1, h3⟩⟩
    rw [this]

/-- The next node was made. -/
theorem Grew.made {q : Bs} {p : List Bs} {T T' : Tr} {w w' w2 : World} (h : Grew q p T T' w w') {z : Bs} {a c r : Nat} (ha : T'.A q p = some a) (hn : T'.A q (z :: p) = none)
    (hc : w'.heap.size ≤ c) (hr : T'.B q p = some r ∨ (T'.B q p = none ∧ w'.heap.size ≤ r))
    (hF : Forest w2 (T'.grow q p z c r)) (n4 : ∀ k, k < w'.heap.size → k ≠ a → k ≠ r → w2.heap[k]? = w'.heap[k]?) (ho : w2.os = w'.os) (ht : w2.tape = w'.tape) (hu : w2.output = w'.output) (hz : w'.heap.size ≤ w2.heap.size) :
    Grew q (z :: p) T (T'.grow q p z c r) w w2 := by
  have hnew : ∀ {q' p' x}, T'.A q' p' = some x → ¬ (q' = q ∧ p' = z :: p) := by
    rintro q' p' x hx ⟨rfl, rfl⟩; rw [hn] at hx; cases hx
  have oa : Own T a ∨ w.heap.size ≤ a := h.own a ⟨q, p, a, ha, .inl rfl⟩
  have orr : Own T r ∨ w.heap.size ≤ r := by
    rcases hr with hr | ⟨_, hr⟩
    · exact h.own r ⟨q, p, a, ha, .inr hr⟩
    · exact .inr (Nat.le_trans h.kept.size hr)
  refine ⟨hF, ?_, ?_, ?_, ?_, ?_⟩
  · intro q' p' x hx
    obtain ⟨h1, h2⟩ := h.old q' p' x hx
    simp only [Tr.grow, if_neg (hnew h1)]
    exact ⟨h1, h2⟩
  · intro q' p'
    simp only [Tr.grow]
    by_cases e : q' = q ∧ p' = z :: p
    · rw [if_pos e]; obtain ⟨rfl, rfl⟩ := e; simp
    · rw [if_neg e, h.dom]
      have : (decide (q' = q) && decide (p' <:+ p)) = (decide (q' = q) && decide (p' <:+ z :: p)) := by
        rw [Bool.eq_iff_iff]
        simp only [Bool.and_eq_true, decide_eq_true_eq, suffix_cons]
        constructor
        · rintro ⟨h1, h2⟩; exact ⟨h1, .inr h2⟩
        · rintro ⟨h1, h2⟩; exact ⟨h1, h2.resolve_left fun h3 => e ⟨h1, h3⟩⟩
      rw [this]
  · intro q' p' h1 h2
    simp only [Tr.grow] at h2 ⊢
    by_cases e : q' = q ∧ p' = z :: p
    · rw [if_pos e]
    · rw [if_neg e] at h2 ⊢; exact h.fresh q' p' h1 h2
  · refine ⟨ho.trans h.kept.os, ht.trans h.kept.tape, hu.trans h.kept.output, Nat.le_trans h.kept.size hz, ?_⟩
    intro k hk hown
    rw [n4 k (Nat.lt_of_lt_of_le hk h.kept.size) ?_ ?_]
    · exact h.kept.block k hk hown
    · rintro rfl; exact oa.elim hown fun x => by omega
    · rintro rfl; exact orr.elim hown fun x => by omega
  · intro k hk
    obtain ⟨q', p', x, hx, hk⟩ := hk
    simp only [Tr.grow] at hx hk
    by_cases e : q' = q ∧ p' = z :: p
    · rw [if_pos e] at hx hk
      cases hx
      rcases hk with rfl | hk
      · exact .inr (Nat.le_trans h.kept.size hc)
      · cases hk
    · rw [if_neg e] at hx hk
      by_cases e2 : q' = q ∧ p' = p
      · rw [if_pos e2] at hk
        rcases hk with rfl | hk
        · exact h.own _ ⟨q', p', _, hx, .inl rfl⟩
        · cases hk; exact orr
      · rw [if_neg e2] at hk
        exact h.own k ⟨q', p', x, hx, hk⟩

/-- Behind add. -/
structure Added (q : Bs) (xs : List Bs) (T T' : Tr) (w w' : World) : Prop where
  forest : Forest w' T'
  old : ∀ q' p' a, T.A q' p' = some a → T'.A q' p' = some a
  dom : ∀ q' p', (T'.A q' p').isSome = ((T.A q' p').isSome || (decide (q' = q) && decide (p' <:+ xs.reverse)))
  ends : ∀ q' p', (T'.A q' p').isSome = true → T'.E q' p' = (((T.A q' p').isSome && T.E q' p') || (decide (q' = q) && decide (p' = xs.reverse)))
  kept : KeptBut (Own T) w w'
  own : ∀ k, Own T' k → Own T k ∨ w.heap.size ≤ k

theorem Grew.done {q : Bs} {xs : List Bs} {T T' : Tr} {w w' w2 : World} (h : Grew q xs.reverse T T' w w') {a : Nat} (ha : T'.A q xs.reverse = some a)
    (hF : Forest w2 (T'.mark q xs.reverse)) (n4 : ∀ k, k ≠ a → w2.heap[k]? = w'.heap[k]?) (ho : w2.os = w'.os) (ht : w2.tape = w'.tape) (hu : w2.output = w'.output) (hz : w'.heap.size ≤ w2.heap.size) :
    Added q xs T (T'.mark q xs.reverse) w w2 := by
  have oa : Own T a ∨ w.heap.size ≤ a := h.own a ⟨q, _, a, ha, .inl rfl⟩
  refine ⟨hF, fun q' p' x hx => (h.old q' p' x hx).1, h.dom, ?_, ?_, h.own⟩
  · intro q' p' hs
    simp only [Tr.mark] at hs ⊢
    by_cases e : q' = q ∧ p' = xs.reverse
    · rw [if_pos e]; obtain ⟨rfl, rfl⟩ := e; simp
    · have : (decide (q' = q) && decide (p' = xs.reverse)) = false := by simpa using e
      rw [if_neg e, this, Bool.or_false]
      cases hT : T.A q' p' with
      | none =>
        have := h.fresh q' p' (by rw [hT]; rfl) hs
        simpa using this
      | some x => simpa using (h.old q' p' x hT).2
  · refine ⟨ho.trans h.kept.os, ht.trans h.kept.tape, hu.trans h.kept.output, Nat.le_trans h.kept.size hz, ?_⟩
    intro k hk hown
    rw [n4 k ?_]
    · exact h.kept.block k hk hown
    · rintro rfl; exact oa.elim hown fun x => by omega

theorem rem_one_ne (p xs : List Bs) : (!(rem p [xs]).isEmpty) = decide (p <:+ xs.reverse) := by
  rw [Bool.eq_iff_iff, decide_eq_true_eq, Bool.not_eq_true', List.isEmpty_eq_false_iff_exists_mem]
  constructor
  · rintro ⟨r, hr⟩
    rw [mem_rem, List.mem_singleton] at hr
    exact ⟨r.reverse, by rw [← hr]; simp⟩
  · rintro ⟨t, ht⟩
    refine ⟨t.reverse, ?_⟩
    rw [mem_rem, List.mem_singleton]
    have := congrArg List.reverse ht
    simpa using this
theorem rem_one_nil (p xs : List Bs) : (rem p [xs]).contains [] = decide (p = xs.reverse) := by
  rw [Bool.eq_iff_iff, decide_eq_true_eq, List.contains_iff_mem, mem_rem, List.mem_singleton, List.append_nil]
  constructor
  · intro h; rw [← h]; simp
  · intro h; rw [h]; simp

theorem isEmpty_app (a b : List (List Bs)) : (a ++ b).isEmpty = (a.isEmpty && b.isEmpty) := by cases a <;> simp

theorem Added.repr {q : Bs} {xs : List Bs} {T T' : Tr} {w w' : World} (h : Added q xs T T' w w') {L : List (List Bs)} (hR : ReprT T q L) : ReprT T' q (L ++ [xs]) := by
  intro p
  have hd := h.dom q p
  have h1 : (T'.A q p).isSome = (p.isEmpty || !(rem p (L ++ [xs])).isEmpty) := by
    rw [hd, (hR p).1, rem_append, isEmpty_app, ← rem_one_ne]
    cases p.isEmpty <;> cases (rem p L).isEmpty <;> simp
  refine ⟨h1, fun hs => ?_⟩
  rw [h.ends q p hs, rem_append]
  have e : ((rem p L) ++ (rem p [xs])).contains [] = ((rem p L).contains [] || (rem p [xs]).contains []) := by
    rw [Bool.eq_iff_iff, Bool.or_eq_true]; simp only [List.contains_iff_mem, List.mem_append]
  rw [e, rem_one_nil]
  cases hT : (T.A q p).isSome
  · have hpr := (hR p).1
    rw [hT] at hpr
    have hre : rem p L = [] := by
      cases hr : rem p L with
      | nil => rfl
      | cons x y => rw [hr] at hpr; simp at hpr
    rw [hre]; simp
  · rw [(hR p).2 hT]; simp

theorem Added.repr_other {q q' : Bs} {xs : List Bs} {T T' : Tr} {w w' : World} (h : Added q xs T T' w w') (hq : q' ≠ q) {L : List (List Bs)} (hR : ReprT T q' L) : ReprT T' q' L := by
  intro p
  have hd := h.dom q' p
  simp only [hq, decide_false, Bool.false_and, Bool.or_false] at hd
  refine ⟨hd.trans (hR p).1, fun hs => ?_⟩
  have he := h.ends q' p hs
  rw [hd] at hs
  rw [he, hs, (hR p).2 hs]
  simp [hq]

end Go.Proofs.Qxb6602990a
