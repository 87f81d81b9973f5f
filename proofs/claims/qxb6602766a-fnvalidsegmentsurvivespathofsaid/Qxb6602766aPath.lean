/-
  pathOf at the two targets that the law hands it.
-/
import Derived.Test.Qxb6602766aShelf
import Derived.WalkKit
namespace Go.Proofs.Qxb6602766a.Path
open Go.RowKit

/-- A byte that a valid segment may hold, as far as pathOf asks. -/
def goodB (c : UInt8) : Prop := c.toNat < 128 ∧ c ≠ 47 ∧ c ≠ 63 ∧ c ≠ 35

theorem any_good (l : List UInt8) (h : ∀ c ∈ l, goodB c) : Lib.indexAny l [63, 35] = -1 := by
  induction l with
  | nil => rfl
  | cons b l ih =>
    have hb := h b (List.mem_cons_self ..)
    have := ih fun c hc => h c (List.mem_cons_of_mem _ hc)
    unfold Lib.indexAny
    simp [this, hb.2.2.1, hb.2.2.2]
theorem any_slash (l : List UInt8) (h : ∀ c ∈ l, goodB c) : Lib.indexAny (47 :: l) [63, 35] = -1 := by
  unfold Lib.indexAny
  simp [any_good l h]
theorem any_one (l : List UInt8) : Lib.indexAny (104 :: 47 :: l) [47, 63, 35] = 1 := by
  unfold Lib.indexAny
  simp [Lib.indexAny]
theorem ascii_cons {c : UInt8} {l : List UInt8} (hc : c.toNat < 128) (h : ∀ (j : Nat) b, l[j]? = some b → b.toNat < 128) : ∀ (j : Nat) b, (c :: l)[j]? = some b → b.toNat < 128 := by
  intro j b hj
  cases j with
  | zero => simp at hj; rw [← hj]; exact hc
  | succ j => exact h j b (by simpa using hj)
theorem ascii_good (l : List UInt8) (h : ∀ c ∈ l, goodB c) : ∀ (j : Nat) b, l[j]? = some b → b.toNat < 128 :=
  fun _ b hj => (h b (List.mem_of_getElem? hj)).1
theorem index_http (l : List UInt8) : Lib.index (104 :: 116 :: 116 :: 112 :: 58 :: 47 :: 47 :: l) [58, 47, 47] = 4 := by
  simp [Lib.index]
theorem cut_http (l : List UInt8) : Lib.cut (104 :: 116 :: 116 :: 112 :: 58 :: 47 :: 47 :: l) [58, 47, 47] = ([104, 116, 116, 112], l, true) := by
  unfold Lib.cut
  rw [index_http]
  simp

theorem size_of {p : ByteArray} {l : List UInt8} (h : p.data.toList = l) : p.size = l.length := by rw [← h]; simp

theorem ascii2 : ∀ (j : Nat) b, [63, 35][j]? = some b → UInt8.toNat b < 128 := ascii_cons (by decide) (ascii_cons (by decide) (by simp))
theorem ascii3 : ∀ (j : Nat) b, [47, 63, 35][j]? = some b → UInt8.toNat b < 128 := ascii_cons (by decide) ascii2

/-- What the walk asks of IndexAny at the second look. -/
theorem any2 (p : ByteArray) (l : List UInt8) (w : World) (hp : Hid (p.data.toList = 47 :: l)) (h : ∀ c ∈ l, goodB c) (hs : p.size < 4294967281) :
    Calls Try.prog 26 #[.string p, .string ⟨#[63, 35]⟩] w fun e w' => e = .returned (.int .i64 (-1)) ∧ Below w.heap.size w w' := by
  refine (Try.strings_IndexAny_laid _ _ _ hs (by decide) (by rw [hp.out]; exact ascii_cons (by decide) (ascii_good l h)) ascii2).mono ?_
  rintro e w' ⟨rfl, hb⟩
  refine ⟨?_, hb⟩
  show Ending.returned (.int .i64 (Lib.indexAny p.data.toList [63, 35])) = _
  rw [hp.out, any_slash l h]

theorem any3 (l : List UInt8) (w : World) (h : ∀ c ∈ l, goodB c) (hs : l.length < 4294967200) :
    Calls Try.prog 26 #[.string ⟨(104 :: 47 :: l).toArray⟩, .string ⟨#[47, 63, 35]⟩] w fun e w' => e = .returned (.int .i64 1) ∧ Below w.heap.size w w' := by
  have hz : (⟨(104 :: 47 :: l).toArray⟩ : ByteArray).size = l.length + 2 := by simp [ByteArray.size]
  refine (Try.strings_IndexAny_laid _ _ _ (by omega) (by decide) (by simpa using ascii_cons (by decide) (ascii_cons (by decide) (ascii_good l h))) ascii3).mono ?_
  rintro e w' ⟨rfl, hb⟩
  refine ⟨?_, hb⟩
  show Ending.returned (.int .i64 (Lib.indexAny (104 :: 47 :: l) [47, 63, 35])) = _
  rw [any_one l]

theorem cut3 (t : ByteArray) (l : List UInt8) (m : Int) (w : World) (ht : Hid (t.data.toList = 104 :: 116 :: 116 :: 112 :: 58 :: 47 :: 47 :: 104 :: 47 :: l)) (hs : t.size < 4294967281) (hm : w.cell? ⟨0, 0, none⟩ = some (.int .i64 m)) :
    Calls Try.prog 25 #[.string t, .string ⟨#[58, 47, 47]⟩] w fun e w' => e = .returned (.tuple #[.string ⟨#[104, 116, 116, 112]⟩, .string ⟨(104 :: 47 :: l).toArray⟩, .bool true]) ∧ ∃ n, w' = w.drewN n := by
  refine (Try.strings_Cut _ _ _ _ hs hm).mono ?_
  rintro e w' ⟨rfl, hb⟩
  refine ⟨?_, hb⟩
  show Ending.returned (.tuple #[.string ⟨(Lib.cut t.data.toList [58, 47, 47]).1.toArray⟩, .string ⟨(Lib.cut t.data.toList [58, 47, 47]).2.1.toArray⟩, .bool (Lib.cut t.data.toList [58, 47, 47]).2.2]) = _
  rw [ht.out, cut_http]

theorem ext1 (l : List UInt8) : (⟨(104 :: 47 :: l).toArray⟩ : ByteArray).extract 1 (l.length + 1 + 1) = ⟨(47 :: l).toArray⟩ := by
  apply Go.WideShapes.bytes_inj
  rw [ByteArray.data_extract]
  simp
theorem below_drewN {w w1 : World} {n : Nat} (h : Below (w.drewN n).heap.size (w.drewN n) w1) : Below w.heap.size w w1 :=
  ⟨h.os, h.tape, h.output, h.size, h.block⟩

set_option maxHeartbeats 400000 in
theorem path_plain (p : ByteArray) (l : List UInt8) (w : World) (hp : Hid (p.data.toList = 47 :: l)) (h : ∀ c ∈ l, goodB c) (hs : p.size < 4294967281) :
    Calls Try.prog 19 #[.string p] w fun e w' => e = .returned (.string p) ∧ Below w.heap.size w w' := by
  have e1 : Lib.hasPrefix p.data.toList [47] = true := by rw [hp.out]; simp [Lib.hasPrefix]
  go_enter Try.func19, Try.ntmps19
  go_wp2_with (first
    | (go_at_call 24; refine (Try.strings_HasPrefix _ _ _).mono ?_; rintro e w' ⟨rfl, rfl⟩))
  refine (any2 p l _ hp h hs).mono ?_
  rintro e w1 ⟨rfl, hb⟩
  go_wp2
  go_ret
  exact ⟨rfl, hb⟩

set_option maxHeartbeats 400000 in
theorem path_http (t : ByteArray) (l : List UInt8) (m : Int) (w : World) (ht : Hid (t.data.toList = 104 :: 116 :: 116 :: 112 :: 58 :: 47 :: 47 :: 104 :: 47 :: l)) (h : ∀ c ∈ l, goodB c) (hs : t.size < 4294967200) (hm : w.cell? ⟨0, 0, none⟩ = some (.int .i64 m)) :
    Calls Try.prog 19 #[.string t] w fun e w' => e = .returned (.string ⟨(47 :: l).toArray⟩) ∧ Below w.heap.size w w' := by
  have e1 : Lib.hasPrefix t.data.toList [47] = false := by rw [ht.out]; rfl
  have hl : l.length + 9 = t.size := by have := size_of ht.out; simp at this; omega
  have hl' : l.length < 4294967200 := by omega
  clear hl
  go_enter Try.func19, Try.ntmps19
  go_wp2_with (first
    | (go_at_call 24; refine (Try.strings_HasPrefix _ _ _).mono ?_; rintro e w' ⟨rfl, rfl⟩))
  refine (cut3 t l m _ ht (by omega) hm).mono ?_
  rintro e w1 ⟨rfl, n, rfl⟩
  go_wp2_with fail
  refine (any3 l _ h hl').mono ?_
  rintro e w1 ⟨rfl, hb⟩
  go_wp2_with fail
  rw [ext1 l]
  refine (any2 ⟨(47 :: l).toArray⟩ l _ rfl h (by simp [ByteArray.size]; omega)).mono ?_
  rintro e w2 ⟨rfl, hb2⟩
  go_wp2
  go_ret
  exact ⟨rfl, (below_drewN hb).trans (hb2.mono hb.size)⟩

theorem zpath_plain (p : ByteArray) (l : List UInt8) (w : World) (hp : Hid (p.data.toList = 47 :: l)) (h : ∀ c ∈ l, goodB c) (hs : p.size < 4294967281) :
    Calls Try.prog 10 #[.string p] w fun e w' => e = .returned (.string p) ∧ Below w.heap.size w w' := by
  go_enter Try.func10, Try.ntmps10
  go_wp2_with fail
  refine (path_plain p l _ hp h hs).mono ?_
  rintro e w1 ⟨rfl, hb⟩
  go_wp2
  go_ret
  exact ⟨rfl, hb⟩
theorem zpath_http (t : ByteArray) (l : List UInt8) (m : Int) (w : World) (ht : Hid (t.data.toList = 104 :: 116 :: 116 :: 112 :: 58 :: 47 :: 47 :: 104 :: 47 :: l)) (h : ∀ c ∈ l, goodB c) (hs : t.size < 4294967200) (hm : w.cell? ⟨0, 0, none⟩ = some (.int .i64 m)) :
    Calls Try.prog 10 #[.string t] w fun e w' => e = .returned (.string ⟨(47 :: l).toArray⟩) ∧ Below w.heap.size w w' := by
  go_enter Try.func10, Try.ntmps10
  go_wp2_with fail
  refine (path_http t l m _ ht h hs hm).mono ?_
  rintro e w1 ⟨rfl, hb⟩
  go_wp2
  go_ret
  exact ⟨rfl, hb⟩
end Go.Proofs.Qxb6602766a.Path
