/-
  The tree of a list of subjects.
-/
import Derived.Test.Qxb6602990aSlice
namespace Go.Proofs.Qxb6602990a
open Go.RowKit Pl

/-- The strings are these subjects. -/
def Subj (ls : List Bs) (xss : List (List Bs)) : Prop := ls = xss.map joinD ∧ ∀ x ∈ xss, GoodS x ∧ x ≠ []

theorem subj_of {ls : List Bs} (h : ls.all (vf []) = true) : ∃ xss, Subj ls xss := by
  induction ls with
  | nil => exact ⟨[], rfl, by simp⟩
  | cons l ls ih =>
    simp only [List.all_cons, Bool.and_eq_true] at h
    obtain ⟨x, hn, hg, he⟩ := vf_nil h.1
    obtain ⟨xss, h1, h2⟩ := ih h.2
    refine ⟨x :: xss, by rw [he, h1]; rfl, ?_⟩
    intro y hy
    rcases List.mem_cons.1 hy with rfl | hy
    · exact ⟨hg, hn⟩
    · exact h2 y hy

theorem Subj.len {ls : List Bs} {xss : List (List Bs)} (h : Subj ls xss) : xss.length = ls.length := by rw [h.1]; simp
theorem Subj.at {ls : List Bs} {xss : List (List Bs)} (h : Subj ls xss) {k : Nat} (hk : k < ls.length) : ∃ x, xss[k]? = some x ∧ ls.getD k [] = joinD x ∧ GoodS x ∧ x ≠ [] := by
  have hk' : k < xss.length := by rw [h.len]; exact hk
  refine ⟨xss[k], List.getElem?_eq_getElem hk', ?_, (h.2 _ (List.getElem_mem _)).1, (h.2 _ (List.getElem_mem _)).2⟩
  rw [getD_at hk]
  have := h.1
  subst this
  simp

theorem take_succ_at {α : Type} {l : List α} {k : Nat} {x : α} (h : l[k]? = some x) : l.take (k + 1) = l.take k ++ [x] := by
  rw [List.take_add_one, h]; rfl

/-- A tree in new memory that holds just these. -/
def TreeIn (w wr : World) (a : Nat) (xss : List (List Bs)) : Prop :=
  ∃ T, Forest wr T ∧ T.A [] [] = some a ∧ ReprT T [] xss ∧ Below w.heap.size w wr ∧ ∀ k, Own T k → w.heap.size ≤ k

set_option maxHeartbeats 400000 in
theorem treeOf_any (p : Option Addr) (n c : Nat) (ls : List Bs) (xss : List (List Bs)) (w : World) (m : Int) (h : SRow w p n c ls) (hn : n ≤ 1048576) (hall : ∀ l ∈ ls, l.length ≤ 1048576) (hx : Subj ls xss) (hm : w.cell? ⟨0, 0, none⟩ = some (.int .i64 m)) :
    Calls Try.prog 24 #[.slice p n c] w fun e w' => e = .returned (ptr w.heap.size) ∧ TreeIn w w' w.heap.size xss := by
  have hlt0 : 0 < w.heap.size := block_lt_of_cell hm
  have hF0 : Forest (w.alloc node0) (Tr.zero.root [] w.heap.size) :=
    (Forest.zero w).root rfl (Nat.le_refl _) (MapKept.heap_alloc w _).1 (fun k hk => (own_zero k hk).elim)
  have hR0 : ReprT (Tr.zero.root [] w.heap.size) [] [] := repr_root (Forest.zero w) rfl
  have hstart : Hid (TreeIn w (w.alloc node0) w.heap.size (xss.take 0)) :=
    ⟨_, hF0, by simp [Tr.root], hR0, (Below.refl _ _).alloc (Nat.le_refl _) _, fun k hk => by rw [(own_root hk).resolve_right (own_zero k)]; exact Nat.le_refl _⟩
  have H := hidC h
  have HL := hidC hall
  have HX := hidC hx
  have HM := hidC hm
  have Hlen := hidC h.len
  clear h hall hx hm hF0 hR0
  go_enter Try.func24, Try.ntmps24
  go_wp2_with (go_at_call 39; refine (new_any _).mono ?_; rintro e w' ⟨rfl, rfl⟩)
  go_loopw [4] (fun i wr => ∃ k : Nat, i = .int .i64 k ∧ k ≤ n ∧ Hid (TreeIn w wr w.heap.size (xss.take k))) (fun i _ => n - (intOf i).toNat)
  case atStart => exact ⟨0, rfl, Nat.zero_le _, hstart⟩
  case round =>
    obtain ⟨k, rfl, hk, hT⟩ := hrel
    by_cases hlt : k < n
    · obtain ⟨T, hF, hA, hR, hB, hO⟩ := hT.out
      obtain ⟨ad, rfl, hc⟩ := (H.out.kept hB).at hlt
      obtain ⟨x, hxk, hxs, hxg, hxn⟩ := HX.out.at (k := k) (by have := Hlen.out; omega)
      have hxl : (joinD x).length ≤ 1048576 := by rw [← hxs]; exact HL.out _ (getD_mem (by have := Hlen.out; omega))
      have hm' : wr.cell? ⟨0, 0, none⟩ = some (.int .i64 m) := (hB.cell (p := ⟨0, 0, none⟩) hlt0).trans HM.out
      have hadd := hidC (zadd_any T [] x w.heap.size wr m hxg hxn hF hA (by omega) hm' (fun h => by have := hO 0 h; omega))
      have hnext : Hid (∀ w', (∃ T', Added [] x T T' wr w') → TreeIn w w' w.heap.size (xss.take (k + 1))) := by
        rintro w' ⟨T', ha⟩
        refine ⟨T', ha.forest, ha.old _ _ _ hA, ?_, ?_, ?_⟩
        · rw [take_succ_at hxk]; exact ha.repr hR
        · refine hB.trans ⟨ha.kept.os, ha.kept.tape, ha.kept.output, ha.kept.size, fun j hj => ha.kept.block j (Nat.lt_of_lt_of_le hj hB.size) (fun ho => by have := hO j ho; omega)⟩
        · intro j hj
          rcases ha.own j hj with h1 | h1
          · exact hO j h1
          · exact Nat.le_trans hB.size h1
      rw [hxs] at hc
      clear hxs hF hR hB hO hT hm' hxk
      go_wp2_with fail
      refine hadd.out.mono ?_
      rintro e w' ⟨⟨v, rfl⟩, hT'⟩
      have HN := hidC (hnext.out w' hT')
      clear hT'
      go_wp2_with fail
      exact ⟨⟨k + 1, by go_num, by omega, HN⟩, by simp [intOf]; omega⟩
    · have hfin : Hid (TreeIn w wr w.heap.size xss) := by
        have : xss.take k = xss := List.take_of_length_le (by rw [HX.out.len, Hlen.out]; omega)
        rw [this] at hT; exact hT
      go_wp2_with fail
      go_ret
      exact ⟨rfl, hfin.out⟩

theorem joinD_inj : ∀ xs ys : List Bs, GoodS xs → GoodS ys → joinD xs = joinD ys → xs = ys
  | [], ys, _, hy, h => ((joinD_eq_nil hy).1 h.symm).symm
  | x :: xr, [], hx, _, h => (joinD_eq_nil hx).1 h
  | x :: xr, y :: yr, hx, hy, h => by
    have e := cut_join xr hx.1
    rw [h, cut_join yr hy.1] at e
    injection e with e1 e2
    injection e2 with e2 _
    rw [e1, joinD_inj xr yr hx.2.2 hy.2.2 e2.symm]

end Go.Proofs.Qxb6602990a
