/-
  A new tree; a tree of one subject.
-/
import Derived.Test.Qxb6602990aAdd
import Derived.WalkSmall
namespace Go.Proofs.Qxb6602990a
open Go.RowKit Pl

/-- No tree at all. -/
def Tr.zero : Tr := ⟨fun _ _ => none, fun _ _ => none, fun _ _ => false⟩

theorem Forest.zero (w : World) : Forest w Tr.zero where
  node _ _ _ h := by cases h
  nomap _ _ _ h := by cases h
  map _ _ _ _ h := by cases h
  closed _ _ _ _ h := by cases h
  injA _ _ _ _ _ h := by cases h
  injB _ _ _ _ _ _ _ h := by cases h

theorem own_zero (k : Nat) : ¬ Own Tr.zero k := by rintro ⟨_, _, _, h, _⟩; cases h

/-- A root more. -/
def Tr.root (T : Tr) (q : Bs) (a : Nat) : Tr where
  A q' p' := if q' = q ∧ p' = [] then some a else T.A q' p'
  B q' p' := if q' = q ∧ p' = [] then none else T.B q' p'
  E q' p' := if q' = q ∧ p' = [] then false else T.E q' p'

theorem Forest.noPath {w : World} {T : Tr} (h : Forest w T) {q : Bs} (hq : T.A q [] = none) : ∀ p, T.A q p = none
  | [] => hq
  | t :: p => by
    cases ht : T.A q (t :: p) with
    | none => rfl
    | some b =>
      obtain ⟨a, ha⟩ := h.closed _ _ _ _ ht
      rw [Forest.noPath h hq p] at ha
      cases ha

theorem Forest.root {w w2 : World} {T : Tr} (hF : Forest w T) {q : Bs} {a : Nat} (hq : T.A q [] = none) (ha : w.heap.size ≤ a)
    (n1 : w2.heap[a]? = some (.cells #[.map none, .bool false] 53)) (n2 : ∀ k, Own T k → w2.heap[k]? = w.heap[k]?) : Forest w2 (T.root q a) := by
  have hnp := hF.noPath hq
  have hF2 := hF.of_heap n2
  have hold : ∀ {q' p' b}, T.A q' p' = some b → ¬ (q' = q ∧ p' = []) := by
    rintro q' p' b hb ⟨rfl, rfl⟩; rw [hq] at hb; cases hb
  refine ⟨?_, ?_, ?_, ?_, ?_, ?_⟩
  · intro q' p' b hb
    simp only [Tr.root] at hb ⊢
    by_cases e : q' = q ∧ p' = []
    · rw [if_pos e] at hb ⊢; rw [if_pos e]; cases hb; exact n1
    · rw [if_neg e] at hb ⊢; rw [if_neg e]; exact hF2.node q' p' b hb
  · intro q' p' b hb hB t
    simp only [Tr.root] at hb hB ⊢
    rw [if_neg (by simp)]
    by_cases e : q' = q ∧ p' = []
    · rw [e.1]; exact hnp _
    · rw [if_neg e] at hb hB; exact hF.nomap q' p' b hb hB t
  · intro q' p' b r hb hB
    simp only [Tr.root] at hb hB ⊢
    by_cases e : q' = q ∧ p' = []
    · rw [if_pos e] at hB; cases hB
    · rw [if_neg e] at hb hB
      have hfun : (fun t => if q' = q ∧ t :: p' = [] then some a else T.A q' (t :: p')) = (fun t => T.A q' (t :: p')) := by
        funext t; rw [if_neg (by simp)]
      rw [hfun]
      exact hF2.map q' p' b r hb hB
  · intro q' p' t b hb
    simp only [Tr.root] at hb ⊢
    rw [if_neg (by simp)] at hb
    obtain ⟨x, hx⟩ := hF.closed q' p' t b hb
    exact ⟨x, by rw [if_neg (hold hx)]; exact hx⟩
  · intro q1 p1 q2 p2 b h1 h2
    simp only [Tr.root] at h1 h2
    by_cases e1 : q1 = q ∧ p1 = []
    · rw [if_pos e1] at h1; cases h1
      by_cases e2 : q2 = q ∧ p2 = []
      · exact ⟨e1.1.trans e2.1.symm, e1.2.trans e2.2.symm⟩
      · rw [if_neg e2] at h2; have := hF.node_lt h2; omega
    · rw [if_neg e1] at h1
      by_cases e2 : q2 = q ∧ p2 = []
      · rw [if_pos e2] at h2; cases h2; have := hF.node_lt h1; omega
      · rw [if_neg e2] at h2; exact hF.injA _ _ _ _ _ h1 h2
  · intro q1 p1 q2 p2 b1 b2 r h1 h2 hB1 hB2
    simp only [Tr.root] at h1 h2 hB1 hB2
    by_cases e1 : q1 = q ∧ p1 = []
    · rw [if_pos e1] at hB1; cases hB1
    · by_cases e2 : q2 = q ∧ p2 = []
      · rw [if_pos e2] at hB2; cases hB2
      · rw [if_neg e1] at h1 hB1
        rw [if_neg e2] at h2 hB2
        exact hF.injB _ _ _ _ _ _ _ h1 h2 hB1 hB2

theorem own_root {T : Tr} {q : Bs} {a k : Nat} (h : Own (T.root q a) k) : k = a ∨ Own T k := by
  obtain ⟨q', p', b, hb, hk⟩ := h
  simp only [Tr.root] at hb hk
  by_cases e : q' = q ∧ p' = []
  · rw [if_pos e] at hb hk
    cases hb
    rcases hk with rfl | hk
    · exact .inl rfl
    · cases hk
  · rw [if_neg e] at hb hk
    exact .inr ⟨q', p', b, hb, hk⟩

theorem rem_nil (p : List Bs) : rem p [] = [] := by
  induction p with
  | nil => rfl
  | cons t p ih => simp [rem, ih, sub]

theorem repr_root {w : World} {T : Tr} (hF : Forest w T) {q : Bs} {a : Nat} (hq : T.A q [] = none) : ReprT (T.root q a) q [] := by
  have hnp := hF.noPath hq
  intro p
  rw [rem_nil]
  cases p with
  | nil => simp [Tr.root]
  | cons t p => simp [Tr.root, hnp]

theorem repr_root_other {T : Tr} {q q' : Bs} {a : Nat} (hq : q' ≠ q) {L : List (List Bs)} (hR : ReprT T q' L) : ReprT (T.root q a) q' L := by
  intro p
  have := hR p
  simpa [Tr.root, hq] using this

/-- A new tree's node. -/
abbrev node0 : Obj := .cells #[.map none, .bool false] 53

theorem new_any (w : World) : Calls Try.prog 39 #[] w fun e w' => e = .returned (ptr w.heap.size) ∧ w' = w.alloc node0 := by
  go_enter Try.func39, Try.ntmps39
  go_wp2
  go_ret
  exact ⟨rfl, rfl⟩

theorem zadd_any (T : Tr) (q : Bs) (xs : List Bs) (a : Nat) (w : World) (m : Int) (hG : GoodS xs) (hne : xs ≠ []) (hF : Forest w T) (ha : T.A q [] = some a)
    (hs : (joinD xs).length < 4294967281) (hm : w.cell? ⟨0, 0, none⟩ = some (.int .i64 m)) (h0 : ¬ Own T 0) :
    Calls Try.prog 40 #[ptr a, S (joinD xs)] w fun e w' => (∃ v, e = .returned v) ∧ ∃ T', Added q xs T T' w w' := by
  have hc := hidC (add_any T q xs a w m hG hne hF ha hs hm h0)
  clear hF
  go_enter Try.func40, Try.ntmps40
  go_wp2_with fail
  refine hc.out.mono ?_
  rintro e w' ⟨⟨v, rfl⟩, hT⟩
  go_wp2_with fail
  go_end0
  exact ⟨⟨_, rfl⟩, hT⟩

theorem zcovers_any (T : Tr) (q : Bs) (L : List (List Bs)) (hR : ReprT T q L) (m : Int) (ys : List Bs) (hG : GoodS ys) (hs : (joinD ys).length < 4294967281) (a : Nat) (self : Bool) (w : World) (hF : Forest w T) (ha : T.A q [] = some a)
    (hm : w.cell? ⟨0, 0, none⟩ = some (.int .i64 m)) :
    Calls Try.prog 25 #[ptr a, S (joinD ys), .bool self] w fun e w' => e = .returned (.bool (covL ys L self)) ∧ ∃ n, w' = w.drewN n := by
  have hc := hidC (covers_any T q L hR m ys hG hs [] a self w hF ha hm)
  clear hF hR
  go_enter Try.func25, Try.ntmps25
  go_wp2_with fail
  refine hc.out.mono ?_
  rintro e w' ⟨rfl, n, rfl⟩
  go_wp2_with fail
  go_ret
  exact ⟨rfl, n, rfl⟩

theorem cov_one {xs ys : List Bs} (hx : GoodS xs) (hy : GoodS ys) : covL ys [xs] false = pc xs ys := by
  rw [covL_any ys [xs] false hy (by simpa using hx)]
  simp [anyC]

set_option maxHeartbeats 400000 in
theorem one_any (xs ys : List Bs) (w : World) (m : Int) (hx : GoodS xs) (hy : GoodS ys) (hxn : xs ≠ []) (hxl : (joinD xs).length < 4294967281) (hyl : (joinD ys).length < 4294967281) (hm : w.cell? ⟨0, 0, none⟩ = some (.int .i64 m)) :
    Calls Try.prog 32 #[S (joinD xs), S (joinD ys)] w fun e w' => e = .returned (.bool (pc xs ys)) ∧ Below w.heap.size w w' := by
  have hlt : 0 < w.heap.size := block_lt_of_cell hm
  have hF0 : Forest (w.alloc node0) (Tr.zero.root [] w.heap.size) :=
    (Forest.zero w).root rfl (Nat.le_refl _) (MapKept.heap_alloc w _).1 (fun k hk => (own_zero k hk).elim)
  have hm1 : (w.alloc node0).cell? ⟨0, 0, none⟩ = some (.int .i64 m) := (World.cell?_of_block (w := w) (Below.heap_alloc _ _ _ hlt)).trans hm
  have hown : ∀ k, Own (Tr.zero.root [] w.heap.size) k → k = w.heap.size := fun k hk => (own_root hk).resolve_right (own_zero k)
  have hadd := hidC (zadd_any (Tr.zero.root [] w.heap.size) [] xs w.heap.size (w.alloc node0) m hx hxn hF0 (by simp [Tr.root]) hxl hm1 (fun h => by have := hown 0 h; omega))
  have hR0 : ReprT (Tr.zero.root [] w.heap.size) [] [] := repr_root (Forest.zero w) rfl
  have HF0 := hidC hF0
  have HR0 := hidC hR0
  have Hown := hidC hown
  clear hF0 hR0 hown
  go_enter Try.func32, Try.ntmps32
  go_wp2_with (go_at_call 39; refine (new_any _).mono ?_; rintro e w' ⟨rfl, rfl⟩)
  refine hadd.out.mono ?_
  rintro e w2 ⟨⟨v, rfl⟩, T', hT⟩
  have hm2 : w2.cell? ⟨0, 0, none⟩ = some (.int .i64 m) := (hT.kept.cell (by simp) (fun h => by have := Hown.out 0 h; omega)).trans hm1
  have hc := hidC (zcovers_any T' [] ([] ++ [xs]) (hT.repr HR0.out) m ys hy hyl w.heap.size false w2 hT.forest (hT.old _ _ _ (by simp [Tr.root])) hm2)
  have hbel : Hid (Below w.heap.size w w2) := by
    refine ⟨hT.kept.os, hT.kept.tape, hT.kept.output, ?_, ?_⟩
    · have := hT.kept.size; simp at this; omega
    · intro k hk
      rw [hT.kept.block k (by simp; omega) (fun h => by have := Hown.out k h; omega)]
      exact Below.heap_alloc _ _ _ hk
  clear hT hm2 hm1
  go_wp2_with fail
  refine hc.out.mono ?_
  rintro e w3 ⟨rfl, n, rfl⟩
  go_wp2_with fail
  go_ret
  exact ⟨ret_bool (cov_one hx hy), below_drewN hbel.out n⟩
end Go.Proofs.Qxb6602990a
