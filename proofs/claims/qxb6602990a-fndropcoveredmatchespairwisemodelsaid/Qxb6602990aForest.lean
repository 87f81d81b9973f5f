/-
  Maps from strings to nodes, and the trees of nodes, as they lie in memory.
-/
import Derived.Test.Qxb6602990aCut
import Derived.Maps.OwnOps
namespace Go.Proofs.Qxb6602990a
open Go.RowKit Pl Go.MapKept
set_option linter.unusedSimpArgs false

/-- A pointer to a node, or nil. -/
abbrev ptr (a : Nat) : Value := .pointer (some ⟨a, 0, none⟩)
def ptrO : Option Nat → Value
  | none => .pointer none
  | some a => ptr a

theorem S_inj {a b : Bs} (h : S a = S b) : a = b := by
  injection h with h
  injection h with h
  have := congrArg Array.toList h
  simpa using this

/-- What a map's entries say. -/
structure Ents (es : Array MapEntry) (g : Bs → Option Nat) : Prop where
  isIn : ∀ x ∈ es.toList, ∃ l a, x.key = S l ∧ x.val = ptr a ∧ g l = some a
  has : ∀ l a, g l = some a → ∃ x ∈ es.toList, x.key = S l

def MapIs (w : World) (r : Nat) (g : Bs → Option Nat) : Prop := ∃ es c, w.heap[r]? = some (.map es c) ∧ Ents es g

theorem Ents.keys {es : Array MapEntry} {g : Bs → Option Nat} (h : Ents es g) : ∀ x ∈ es.toList, IsKey .string x.key := by
  intro x hx
  obtain ⟨l, a, hk, _⟩ := h.isIn x hx
  rw [hk]
  trivial

theorem zero38 (w : World) : (zeroValue 38).run Try.prog w = .ok (.pointer none) w := by kernel_rfl

theorem run_look {w : World} {r : Nat} {g : Bs → Option Nat} (h : MapIs w r g) (l : Bs) :
    (Instr.lookup 51 (.map (some r)) (S l) false).run Try.prog w = .ok (ptrO (g l)) w := by
  obtain ⟨es, c, hb, he⟩ := h
  have hk : IsKey .string (S l) := trivial
  rcases findNow_spec hk es.toList 0 he.keys with ⟨h1, h2⟩ | ⟨j, e, h1, h2, h3⟩
  · have hg : g l = none := by
      cases hg : g l with
      | none => rfl
      | some a => obtain ⟨x, hx, hxk⟩ := he.has l a hg; exact (h2 x hx hxk).elim
    simp [Instr.lookup, run_underlying Try.underlying51, MapKept.run_getObj_map hb, run_checkKey Try.underlying9 hk, run_findKey Try.underlying9 h1, Result.andThen, zero38, hg, ptrO]
  · obtain ⟨l', a, hk', hv, hg⟩ := he.isIn e (List.mem_of_getElem? h2)
    rw [hk'] at h3
    rw [S_inj h3] at hg
    simp [Instr.lookup, run_underlying Try.underlying51, MapKept.run_getObj_map hb, run_checkKey Try.underlying9 hk, run_findKey Try.underlying9 h1, Result.andThen, hv, hg, ptrO]

theorem run_look_nil (w : World) (l : Bs) : (Instr.lookup 51 (.map none) (S l) false).run Try.prog w = .ok (.pointer none) w := by
  have hk : IsKey .string (S l) := trivial
  have h1 : Instr.findNow .string (S l) ([] : List MapEntry) 0 = some none := rfl
  simp [Instr.lookup, run_underlying Try.underlying51, run_checkKey Try.underlying9 hk, run_findKey Try.underlying9 h1, Result.andThen, zero38]

def putG (g : Bs → Option Nat) (l : Bs) (a : Nat) : Bs → Option Nat := fun t => if t = l then some a else g t

theorem run_put {w : World} {r : Nat} {g : Bs → Option Nat} (h : MapIs w r g) (l : Bs) (a : Nat) (hn : g l = none) :
    ∃ w', (Instr.mapUpdate 51 (.map (some r)) (S l) (ptr a)).run Try.prog w = .ok () w' ∧ MapIs w' r (putG g l a) ∧ w.grownBy w' (some r) ∧ w'.heap.size = w.heap.size := by
  obtain ⟨es, c, hb, he⟩ := h
  have hk : IsKey .string (S l) := trivial
  rcases findNow_spec hk es.toList 0 he.keys with ⟨h1, h2⟩ | ⟨j, e, h1, h2, h3⟩
  · refine ⟨{ w with heap := w.heap.setIfInBounds r (.map (es.push { key := S l, val := ptr a, born := c }) (c + 1)) }, ?_, ?_, ?_, ?_⟩
    · simp [Instr.mapUpdate, run_underlying Try.underlying51, MapKept.run_getObj_map hb, run_checkKey Try.underlying9 hk, run_findKey Try.underlying9 h1, MapKept.run_setObj_map _ hb, Result.andThen]
    · refine ⟨_, _, (heap_set hb).1, ?_, ?_⟩
      · intro x hx
        simp only [Array.toList_push, List.mem_append, List.mem_singleton] at hx
        rcases hx with hx | rfl
        · obtain ⟨l', a', e1, e2, e3⟩ := he.isIn x hx
          refine ⟨l', a', e1, e2, ?_⟩
          unfold putG
          rw [if_neg ?_]
          · exact e3
          · rintro rfl; rw [hn] at e3; cases e3
        · exact ⟨l, a, rfl, rfl, by simp [putG]⟩
      · intro l' a' hg
        unfold putG at hg
        split at hg
        · rename_i e; subst e
          exact ⟨{ key := S l', val := ptr a, born := c }, by simp, rfl⟩
        · obtain ⟨x, hx, hxk⟩ := he.has l' a' hg
          exact ⟨x, by simp only [Array.toList_push, List.mem_append]; exact .inl hx, hxk⟩
    · exact ⟨rfl, rfl, rfl, by simp, fun k _ hne => (heap_set hb).2 k (fun e => hne (by rw [e]))⟩
    · simp
  · obtain ⟨l', a', hk', hv, hg⟩ := he.isIn e (List.mem_of_getElem? h2)
    rw [hk'] at h3
    rw [S_inj h3, hn] at hg
    cases hg

/-- A look-up at the operation, for the walk. -/
theorem wp_look {ops : Array Oper} {rest : List Oper} {o : Oper} {a : Act} {Q : Exit → Act → World → Prop} (w : World)
    (hg : o.guard = none) (m x : Operand) (hop : o.op = Op.lookup 51 m x false) (r : Nat) (g : Bs → Option Nat) (l : Bs)
    (hm : a.eval m = .map (some r)) (hx : a.eval x = S l) (h : MapIs w r g)
    (hK : wpList Try.prog ops Q rest (a.put o.dst (ptrO (g l))) w) : wpList Try.prog ops Q (o :: rest) a w := by
  refine wpList_plain hg fun K' hK' => ?_
  have hrun := run_look h l
  unfold Oper.wp
  simp [execOp, hop, hm, hx, hrun, Result.andThen]
  exact hK' _ _ hK

theorem wp_look_nil {ops : Array Oper} {rest : List Oper} {o : Oper} {a : Act} {Q : Exit → Act → World → Prop} (w : World)
    (hg : o.guard = none) (m x : Operand) (hop : o.op = Op.lookup 51 m x false) (l : Bs)
    (hm : a.eval m = .map none) (hx : a.eval x = S l)
    (hK : wpList Try.prog ops Q rest (a.put o.dst (.pointer none)) w) : wpList Try.prog ops Q (o :: rest) a w := by
  refine wpList_plain hg fun K' hK' => ?_
  have hrun := run_look_nil w l
  unfold Oper.wp
  simp [execOp, hop, hm, hx, hrun, Result.andThen]
  exact hK' _ _ hK

/-- A store into a map at the operation, for the walk. -/
theorem wp_put {ops : Array Oper} {rest : List Oper} {o : Oper} {a : Act} {Q : Exit → Act → World → Prop} (w : World)
    (hg : o.guard = none) (m x v : Operand) (hop : o.op = Op.mapUpdate 51 m x v) (r : Nat) (g : Bs → Option Nat) (l : Bs) (b : Nat)
    (hm : a.eval m = .map (some r)) (hx : a.eval x = S l) (hv : a.eval v = ptr b) (h : MapIs w r g) (hn : g l = none)
    (hK : ∀ w', MapIs w' r (putG g l b) → w.grownBy w' (some r) → w'.heap.size = w.heap.size → wpList Try.prog ops Q rest (a.put o.dst undef) w') : wpList Try.prog ops Q (o :: rest) a w := by
  refine wpList_plain hg fun K' hK' => ?_
  obtain ⟨w', hrun, h1, h2, h3⟩ := run_put h l b hn
  unfold Oper.wp
  simp [execOp, hop, hm, hx, hv, hrun, Result.andThen]
  exact hK' _ _ (hK w' h1 h2 h3)

/-! ### The trees -/

/-- A forest: one tree for each name; a node by the tokens that lead to it, the last one first. A: the node's block. B: its map's block. E: does a subject end there? -/
structure Tr where
  A : Bs → List Bs → Option Nat
  B : Bs → List Bs → Option Nat
  E : Bs → List Bs → Bool

structure Forest (w : World) (T : Tr) : Prop where
  node : ∀ q p a, T.A q p = some a → w.heap[a]? = some (.cells #[.map (T.B q p), .bool (T.E q p)] 53)
  nomap : ∀ q p a, T.A q p = some a → T.B q p = none → ∀ t, T.A q (t :: p) = none
  map : ∀ q p a r, T.A q p = some a → T.B q p = some r → MapIs w r (fun t => T.A q (t :: p))
  closed : ∀ q p t b, T.A q (t :: p) = some b → ∃ a, T.A q p = some a
  injA : ∀ q p q' p' a, T.A q p = some a → T.A q' p' = some a → q = q' ∧ p = p'
  injB : ∀ q p q' p' a a' r, T.A q p = some a → T.A q' p' = some a' → T.B q p = some r → T.B q' p' = some r → q = q' ∧ p = p'

/-- The blocks of the forest. -/
def Own (T : Tr) (k : Nat) : Prop := ∃ q p a, T.A q p = some a ∧ (a = k ∨ T.B q p = some k)

theorem Forest.of_heap {w w' : World} {T : Tr} (h : Forest w T) (e : ∀ k, Own T k → w'.heap[k]? = w.heap[k]?) : Forest w' T where
  node q p a ha := (e a ⟨q, p, a, ha, .inl rfl⟩).trans (h.node q p a ha)
  nomap := h.nomap
  map q p a r ha hb := by
    obtain ⟨es, c, h1, h2⟩ := h.map q p a r ha hb
    exact ⟨es, c, (e r ⟨q, p, a, ha, .inr hb⟩).trans h1, h2⟩
  closed := h.closed
  injA := h.injA
  injB := h.injB

theorem Forest.drewN {w : World} {T : Tr} (h : Forest w T) (n : Nat) : Forest (w.drewN n) T := h.of_heap fun _ _ => rfl

theorem Forest.own_lt {w : World} {T : Tr} (h : Forest w T) {k : Nat} (hk : Own T k) : k < w.heap.size := by
  obtain ⟨q, p, a, ha, hk⟩ := hk
  rcases hk with rfl | hk
  · exact (Array.getElem?_eq_some_iff.1 (h.node q p a ha)).1
  · obtain ⟨es, c, h1, _⟩ := h.map q p a k ha hk
    exact (Array.getElem?_eq_some_iff.1 h1).1

/-- What the walk asks of a node. -/
theorem Forest.cells {w : World} {T : Tr} (h : Forest w T) {q : Bs} {p : List Bs} {a : Nat} (ha : T.A q p = some a) :
    w.cell? ⟨a, 0, none⟩ = some (.map (T.B q p)) ∧ w.cell? ⟨a, 1, none⟩ = some (.bool (T.E q p)) ∧ w.frozen? ⟨a, 0, none⟩ = false ∧ w.frozen? ⟨a, 1, none⟩ = false := by
  have := h.node q p a ha
  simp [World.cell?, World.frozen?, this]

/-- The forest's tree of that name holds just these subjects. -/
def ReprT (T : Tr) (q : Bs) (L : List (List Bs)) : Prop :=
  ∀ p, (T.A q p).isSome = (p.isEmpty || !(rem p L).isEmpty) ∧ ((T.A q p).isSome = true → T.E q p = (rem p L).contains [])

end Go.Proofs.Qxb6602990a
