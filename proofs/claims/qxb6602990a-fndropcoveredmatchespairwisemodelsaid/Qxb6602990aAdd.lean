/-
  The tree's add.
-/
import Derived.Test.Qxb6602990aGrow
import Derived.WalkSpells
namespace Go.Proofs.Qxb6602990a
open Go.RowKit Pl

def lenOf : Value → Nat
  | .string s => s.size
  | _ => 0

theorem lenOf_S (l : Bs) : lenOf (S l) = l.length := by simp [lenOf, ByteArray.size]

theorem good_right : ∀ {a b : List Bs}, GoodS (a ++ b) → GoodS b
  | [], _, h => h
  | _ :: a, b, h => good_right (a := a) (b := b) h.2.2

/-- The loop's relation. -/
def AddRel (T : Tr) (q : Bs) (xs : List Bs) (w : World) (t s more : Value) (wr : World) : Prop :=
  ∃ p zs a T1, xs = p.reverse ++ zs ∧ (joinD zs).length ≤ (joinD xs).length ∧ t = ptr a ∧ s = S (joinD zs) ∧ more = .bool (!zs.isEmpty) ∧ T1.A q p = some a ∧ Grew q p T T1 w wr

theorem joinD_lt {z : Bs} {r : List Bs} (h : okTok z) : (joinD r).length < (joinD (z :: r)).length := by
  have : 0 < z.length := List.length_pos_iff.2 h.1
  cases r with
  | nil => simpa [joinD] using this
  | cons u r => rw [joinD_cons z (by simp)]; simp; omega

theorem setCell_mark {w : World} {b : Nat} {x : Value} {e : Bool} (h : w.heap[b]? = some (.cells #[x, .bool e] 53)) :
    (w.setCell ⟨b, 1, none⟩ (.bool true)).heap[b]? = some (.cells #[x, .bool true] 53) ∧ ∀ k, k ≠ b → (w.setCell ⟨b, 1, none⟩ (.bool true)).heap[k]? = w.heap[k]? := by
  refine ⟨?_, fun k hk => Below.heap_setCell _ _ _ _ hk⟩
  simp [World.setCell, Array.getElem?_modify, h]

theorem setCell_map {w : World} {b r : Nat} {x : Value} {e : Bool} (h : w.heap[b]? = some (.cells #[x, .bool e] 53)) :
    (w.setCell ⟨b, 0, none⟩ (.map (some r))).heap[b]? = some (.cells #[.map (some r), .bool e] 53) ∧ ∀ k, k ≠ b → (w.setCell ⟨b, 0, none⟩ (.map (some r))).heap[k]? = w.heap[k]? := by
  refine ⟨?_, fun k hk => Below.heap_setCell _ _ _ _ hk⟩
  simp [World.setCell, Array.getElem?_modify, h]

theorem mapIs_of_block {w w' : World} {r : Nat} {g : Bs → Option Nat} (h : MapIs w r g) (e : w'.heap[r]? = w.heap[r]?) : MapIs w' r g := by
  obtain ⟨es, c, h1, h2⟩ := h
  exact ⟨es, c, e.trans h1, h2⟩

set_option maxHeartbeats 1000000 in
theorem add_any (T : Tr) (q : Bs) (xs : List Bs) (a : Nat) (w : World) (m : Int) (hG : GoodS xs) (hne : xs ≠ []) (hF : Forest w T) (ha : T.A q [] = some a)
    (hs : (joinD xs).length < 4294967281) (hm : w.cell? ⟨0, 0, none⟩ = some (.int .i64 m)) (h0 : ¬ Own T 0) :
    Calls Try.prog 44 #[ptr a, S (joinD xs)] w fun e w' => (∃ v, e = .returned v) ∧ ∃ T', Added q xs T T' w w' := by
  have hlt0 : 0 < w.heap.size := block_lt_of_cell hm
  have hstart : AddRel T q xs w (ptr a) (S (joinD xs)) (.bool true) w := by
    refine ⟨[], xs, a, T, rfl, Nat.le_refl _, rfl, rfl, ?_, ha, Grew.start hF ha⟩
    cases xs with
    | nil => exact absurd rfl hne
    | cons x r => rfl
  have HG : Hid (GoodS xs) := hG
  have HF : Hid (Forest w T) := hF
  clear hF hG
  have hmm := @run_makeMap Try.prog
  have heq := fun (W : World) (o : Option Nat) => run_eql_map_nil (P := Try.prog) W 51 9 38 o Try.underlying51
  go_enter Try.func44, Try.ntmps44
  go_wp2_with fail
  go_loopw [0, 1, 4] (fun t s more wr => AddRel T q xs w t s more wr) (fun _ s _ _ => lenOf s)
  case atStart => exact hstart
  case round =>
    obtain ⟨p, zs, b, T1, hx, hlen, rfl, rfl, rfl, hb, hg⟩ := hrel
    have hgH : Hid (Grew q p T T1 w wr) := hg
    obtain ⟨c0, c1, f0, f1⟩ := hg.forest.cells hb
    have hm' : wr.cell? ⟨0, 0, none⟩ = some (.int .i64 m) := (hg.kept.cell hlt0 h0).trans hm
    have hblt : b < wr.heap.size := hg.forest.node_lt hb
    clear hm hstart
    cases zs with
    | nil =>
      have hx' : Hid (xs = p.reverse ++ []) := hx
      clear hx hg hlen
      go_wp2_with fail
      go_end0
      refine ⟨⟨_, rfl⟩, T1.mark q p, ?_⟩
      have hxr : p = xs.reverse := by rw [hx'.out]; simp
      have hg := hgH.out
      subst hxr
      have hn := setCell_mark (hg.forest.node _ _ _ hb)
      exact hg.done hb (hg.forest.mark hb hn.1 hn.2) hn.2 rfl rfl rfl (by simp [World.setCell])
    | cons z r =>
      have hz : okTok z := by have := HG.out; rw [hx] at this; exact (good_right this).1
      have hx' : Hid (xs = p.reverse ++ z :: r) := hx
      have hjl : (joinD (z :: r)).length < 4294967281 := by omega
      clear hx
      go_wp2_with fail
      refine (cut_tok z r hz m _ hjl hm').mono ?_
      rintro e w' ⟨rfl, n, rfl⟩
      have hg1 := hg.drewN n
      clear c0 c1 f0 f1 hm' hblt hg hgH
      generalize wr.drewN n = w1 at hg1 ⊢
      have hgH : Hid (Grew q p T T1 w w1) := hg1
      obtain ⟨c0, c1, f0, f1⟩ := hg1.forest.cells hb
      have hblt : b < w1.heap.size := hg1.forest.node_lt hb
      cases hA : T1.A q (z :: p) with
      | some b2 =>
        have hl := hg1.forest.look_some hb hA
        clear hg1
        go_wp2_with fail
        refine ⟨⟨z :: p, r, b2, T1, ?_, ?_, rfl, rfl, rfl, hA, hgH.out.found hA⟩, ?_⟩
        · rw [hx'.out]; simp
        · exact Nat.le_trans (Nat.le_of_lt (joinD_lt hz)) hlen
        · rw [lenOf_S, lenOf_S]; exact joinD_lt hz
      | none =>
        have hl := hg1.forest.look_none hb hA
        cases hB : T1.B q p with
        | some r0 =>
          rw [hB] at c0 hl
          have hrlt : r0 < w1.heap.size := hg1.forest.map_lt hb hB
          have hnode := hg1.forest.node q p b hb
          obtain ⟨w2, hrun, k1, k2, k3⟩ := run_put (w := w1.alloc (.cells #[.map none, .bool false] 53)) (mapIs_of_block (hg1.forest.map q p b r0 hb hB) (Below.heap_alloc _ _ _ hrlt)) z w1.heap.size hA
          have hne0 : b ≠ r0 := hg1.forest.block_ne hb hb hB
          have hfin : Hid (Grew q (z :: p) T (T1.grow q p z w1.heap.size r0) w w2) := by
            have n4 : ∀ k, k < w1.heap.size → k ≠ b → k ≠ r0 → w2.heap[k]? = w1.heap[k]? := fun k hk _ hr => by
              rw [k2.block k (by simp; omega) (fun e => hr (by injection e))]; exact Below.heap_alloc _ _ _ hk
            refine hg1.made hb hA (Nat.le_refl _) (.inl hB) (hg1.forest.grow hb hA (Nat.le_refl _) (.inl hB) ?_ ?_ k1 n4) n4 k2.os k2.tape k2.output ?_
            · rw [k2.block b (by simp; omega) (fun e => hne0 (by injection e)), Below.heap_alloc _ _ _ hblt, hnode, hB]
            · rw [k2.block w1.heap.size (by simp) (fun e => by injection e with e; omega)]
              exact (MapKept.heap_alloc w1 _).1
            · rw [k3]; simp
          have hA2 : Hid ((T1.grow q p z w1.heap.size r0).A q (z :: p) = some w1.heap.size) := by show _ = _; simp [Tr.grow]
          clear hg1 k1 k2 k3 hnode
          go_wp2_with fail
          refine ⟨⟨z :: p, r, w1.heap.size, _, ?_, ?_, rfl, rfl, rfl, hA2.out, hfin.out⟩, ?_⟩
          · rw [hx'.out]; simp
          · exact Nat.le_trans (Nat.le_of_lt (joinD_lt hz)) hlen
          · rw [lenOf_S, lenOf_S]; exact joinD_lt hz
        | none =>
          rw [hB] at c0 hl
          have hnode := hg1.forest.node q p b hb
          have hall := hg1.forest.nomap q p b hb hB
          have hsc := setCell_map (r := w1.heap.size) hnode
          have hmap : MapIs (((w1.setCell ⟨b, 0, none⟩ (.map (some w1.heap.size))).alloc (.map #[] 0)).alloc (.cells #[.map none, .bool false] 53)) w1.heap.size (fun t => T1.A q (t :: p)) := by
            refine ⟨#[], 0, ?_, ?_, ?_⟩
            · rw [Below.heap_alloc _ _ _ (by simp [World.setCell])]
              have := (MapKept.heap_alloc (w1.setCell ⟨b, 0, none⟩ (.map (some w1.heap.size))) (.map #[] 0)).1
              simpa [World.setCell] using this
            · intro x hx; simp at hx
            · intro l a' hl'; rw [hall l] at hl'; cases hl'
          obtain ⟨w2, hrun, k1, k2, k3⟩ := run_put hmap z (w1.heap.size + 1) hA
          have z0 : (w1.setCell ⟨b, 0, none⟩ (.map (some w1.heap.size))).heap.size = w1.heap.size := by simp [World.setCell]
          have z1 : ((w1.setCell ⟨b, 0, none⟩ (.map (some w1.heap.size))).alloc (.map #[] 0)).heap.size = w1.heap.size + 1 := by simp [z0]
          have hlow : ∀ k, k < w1.heap.size → w2.heap[k]? = (w1.setCell ⟨b, 0, none⟩ (.map (some w1.heap.size))).heap[k]? := fun k hk => by
            rw [k2.block k (by simp [z0]; omega) (fun e => by injection e with e; omega), Below.heap_alloc _ _ _ (by rw [z1]; omega), Below.heap_alloc _ _ _ (by rw [z0]; omega)]
          have hfin : Hid (Grew q (z :: p) T (T1.grow q p z (w1.heap.size + 1) w1.heap.size) w w2) := by
            have n4 : ∀ k, k < w1.heap.size → k ≠ b → k ≠ w1.heap.size → w2.heap[k]? = w1.heap[k]? := fun k hk hkb _ => by
              rw [hlow k hk]; exact hsc.2 k hkb
            refine hg1.made hb hA (Nat.le_succ _) (.inr ⟨hB, Nat.le_refl _⟩) (hg1.forest.grow hb hA (Nat.le_succ _) (.inr ⟨hB, Nat.le_refl _⟩) ?_ ?_ k1 n4) n4 k2.os k2.tape k2.output ?_
            · rw [hlow b hblt]; exact hsc.1
            · rw [k2.block (w1.heap.size + 1) (by simp [z0]) (fun e => by injection e with e; omega), ← z1]
              exact (MapKept.heap_alloc _ _).1
            · rw [k3]; simp [z0]; omega
          have hA2 : Hid ((T1.grow q p z (w1.heap.size + 1) w1.heap.size).A q (z :: p) = some (w1.heap.size + 1)) := by show _ = _; simp [Tr.grow]
          clear hg1 k1 k2 k3 hnode hlow hsc hmap z0 z1 hall
          go_wp2_with fail
          refine ⟨⟨z :: p, r, w1.heap.size + 1, _, ?_, ?_, rfl, rfl, rfl, hA2.out, hfin.out⟩, ?_⟩
          · rw [hx'.out]; simp
          · exact Nat.le_trans (Nat.le_of_lt (joinD_lt hz)) hlen
          · rw [lenOf_S, lenOf_S]; exact joinD_lt hz
end Go.Proofs.Qxb6602990a
