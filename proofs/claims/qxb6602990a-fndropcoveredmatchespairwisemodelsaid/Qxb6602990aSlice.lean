/-
  Slices of strings: as they came in; a copy of one's own.
-/
import Derived.Test.Qxb6602990aCov
import Derived.Test.Qxb6602990aOne
import Derived.Deep.OwnRows
namespace Go.Proofs.Qxb6602990a
open Go.RowKit Pl Go.PlainAid

/-- The slice's elements in this world. -/
def SRow (w : World) (p : Option Addr) (n c : Nat) (ls : List Bs) : Prop :=
  n = ls.length ∧ n ≤ c ∧ ((p = none ∧ n = 0 ∧ c = 0) ∨ ∃ ad : Addr, p = some ad ∧ ∀ i, i < n → w.cell? (ad.add i) = some (S (ls.getD i [])))

theorem SRow.kept {w w' : World} {p : Option Addr} {n c : Nat} {ls : List Bs} (h : SRow w p n c ls) (hb : Below w.heap.size w w') : SRow w' p n c ls := by
  obtain ⟨h1, h2, h3⟩ := h
  refine ⟨h1, h2, h3.imp id ?_⟩
  rintro ⟨ad, rfl, hc⟩
  refine ⟨ad, rfl, fun i hi => ?_⟩
  have := hc i hi
  rw [hb.cell (block_lt_of_cell this)]
  exact this

theorem SRow.len {w : World} {p : Option Addr} {n c : Nat} {ls : List Bs} (h : SRow w p n c ls) : ls.length = n := h.1.symm
theorem SRow.at {w : World} {p : Option Addr} {n c : Nat} {ls : List Bs} (h : SRow w p n c ls) {k : Nat} (hk : k < n) : ∃ ad : Addr, p = some ad ∧ w.cell? (ad.add k) = some (S (ls.getD k [])) := by
  rcases h.2.2 with ⟨_, h0, _⟩ | ⟨ad, hp, hc⟩
  · omega
  · exact ⟨ad, hp, hc k hk⟩

theorem getD_mem {ls : List Bs} {k : Nat} (hk : k < ls.length) : ls.getD k [] ∈ ls := by
  rw [List.getD_eq_getElem?_getD, List.getElem?_eq_getElem hk]; exact List.getElem_mem hk
theorem getD_at {ls : List Bs} {k : Nat} (hk : k < ls.length) : ls.getD k [] = ls[k] := by
  rw [List.getD_eq_getElem?_getD, List.getElem?_eq_getElem hk]; rfl

/-- The law's count of bytes: all that the laws use of it. -/
theorem bytes_any (p : Option Addr) (n c : Nat) (ls : List Bs) (w : World) (h : SRow w p n c ls) (hn : n ≤ 1048576) :
    Calls Try.prog 12 #[.slice p n c] w fun e w' => ∃ r : Nat, e = .returned (.int .i64 r) ∧ w' = w ∧ r ≤ 3000000 ∧ (r ≤ 1048576 → ∀ l ∈ ls, l.length ≤ 1048576) := by
  have hlen := h.len
  have H := hidC h
  clear h
  have Hlen := hidC hlen
  clear hlen
  go_enter Try.func12, Try.ntmps12
  go_wp2
  go_loop [3, 4] (fun z i => ∃ r k : Nat, z = .int .i64 r ∧ i = .int .i64 k ∧ k ≤ n ∧ r ≤ 1048576 ∧ Hid (∀ j, j < k → (ls.getD j []).length ≤ 1048576)) (fun _ i => n - (intOf i).toNat)
  case atStart => exact ⟨0, 0, rfl, rfl, Nat.zero_le _, Nat.zero_le _, fun j hj => absurd hj (Nat.not_lt_zero _)⟩
  case round =>
    obtain ⟨r, k, rfl, rfl, hk, hr, hall⟩ := hrel
    by_cases hlt : k < n
    · obtain ⟨ad, rfl, hc⟩ := H.out.at hlt
      generalize hs : ls.getD k [] = s at hc
      have Hs := hidC hs
      clear hs
      go_wp2
      · go_ret
        exact ⟨1048577, rfl, rfl, by omega, fun h => by omega⟩
      · go_ret
        exact ⟨r + (16 + s.length), ret_int (by omega), rfl, by omega, fun h => by omega⟩
      · refine ⟨⟨r + (16 + s.length), k + 1, by go_num, by go_num, by omega, by omega, ?_⟩, by simp [intOf]; omega⟩
        intro j hj
        by_cases e : j = k
        · rw [e, Hs.out]; omega
        · exact hall.out j (by omega)
    · go_wp2
      go_ret
      refine ⟨r, rfl, rfl, by omega, fun _ l hl => ?_⟩
      obtain ⟨j, hj, rfl⟩ := List.getElem_of_mem hl
      have := hall.out j (by have := Hlen.out; omega)
      rw [getD_at hj] at this
      exact this

def SomeBool (e : Ending) : Prop := ∃ b : Bool, e = .returned (.bool b)

/-- The size guard of the first law over a list. -/
theorem guard19_any (p : Option Addr) (n c : Nat) (ls : List Bs) (w : World) (h : SRow w p n c ls) (hn : n ≤ 9223372036854775807) :
    Calls Try.prog 19 #[.slice p n c] w fun e w' => SomeBool e ∧ w' = w := by
  have H := hidC h
  clear h
  by_cases hbig : n ≤ 1048576
  · go_enter Try.func19, Try.ntmps19
    go_wp2
    go_loop [3, 4] (fun z i => ∃ r k : Nat, z = .int .i64 r ∧ i = .int .i64 k ∧ k ≤ n ∧ r ≤ 1048576) (fun _ i => n - (intOf i).toNat)
    case atStart => exact ⟨n, 0, by simp, rfl, Nat.zero_le _, hbig⟩
    case round =>
      obtain ⟨r, k, rfl, rfl, hk, hr⟩ := hrel
      by_cases hlt : k < n
      · obtain ⟨ad, rfl, hc⟩ := H.out.at hlt
        generalize ls.getD k [] = s at hc
        go_wp2
        · go_ret
          exact ⟨⟨_, rfl⟩, rfl⟩
        · go_ret
          exact ⟨⟨_, rfl⟩, rfl⟩
        · exact ⟨⟨r + s.length, k + 1, by go_num, by go_num, by omega, by omega⟩, by simp [intOf]; omega⟩
      · go_wp2
        go_ret
        exact ⟨⟨_, rfl⟩, rfl⟩
  · go_enter Try.func19, Try.ntmps19
    go_wp2
    go_ret
    exact ⟨⟨_, rfl⟩, rfl⟩

theorem guard11_any (p : Option Addr) (n c : Nat) (ls : List Bs) (w : World) (h : SRow w p n c ls) (hn : n ≤ 9223372036854775807) :
    Calls Try.prog 11 #[.slice p n c] w fun e w' => SomeBool e ∧ w' = w := by
  have H := hidC h
  clear h
  by_cases hbig : n ≤ 1048576
  · go_enter Try.func11, Try.ntmps11
    go_wp2
    go_loop [3, 4] (fun z i => ∃ r k : Nat, z = .int .i64 r ∧ i = .int .i64 k ∧ k ≤ n ∧ r ≤ 1048576) (fun _ i => n - (intOf i).toNat)
    case atStart => exact ⟨n, 0, by simp, rfl, Nat.zero_le _, hbig⟩
    case round =>
      obtain ⟨r, k, rfl, rfl, hk, hr⟩ := hrel
      by_cases hlt : k < n
      · obtain ⟨ad, rfl, hc⟩ := H.out.at hlt
        generalize ls.getD k [] = s at hc
        go_wp2
        · go_ret
          exact ⟨⟨_, rfl⟩, rfl⟩
        · go_ret
          exact ⟨⟨_, rfl⟩, rfl⟩
        · exact ⟨⟨r + s.length, k + 1, by go_num, by go_num, by omega, by omega⟩, by simp [intOf]; omega⟩
      · go_wp2
        go_ret
        exact ⟨⟨_, rfl⟩, rfl⟩
  · go_enter Try.func11, Try.ntmps11
    go_wp2
    go_ret
    exact ⟨⟨_, rfl⟩, rfl⟩

theorem guard27_any (p : Option Addr) (n c : Nat) (ls : List Bs) (s0 : ByteArray) (sb : Bool) (w : World) (h : SRow w p n c ls) (hn : n ≤ 9223372036854775807) (hs0 : s0.size ≤ 9223372036854775807) :
    Calls Try.prog 27 #[.slice p n c, .string s0, .bool sb] w fun e w' => SomeBool e ∧ w' = w := by
  have H := hidC h
  clear h
  by_cases hbig : n ≤ 1048576
  · go_enter Try.func27, Try.ntmps27
    go_wp2
    go_loop [7, 8] (fun z i => ∃ r k : Nat, z = .int .i64 r ∧ i = .int .i64 k ∧ k ≤ n ∧ r ≤ 1048576) (fun _ i => n - (intOf i).toNat)
    case atStart => exact ⟨n, 0, by simp, rfl, Nat.zero_le _, hbig⟩
    case round =>
      obtain ⟨r, k, rfl, rfl, hk, hr⟩ := hrel
      by_cases hlt : k < n
      · obtain ⟨ad, rfl, hc⟩ := H.out.at hlt
        generalize ls.getD k [] = s at hc
        go_wp2
        · go_ret
          exact ⟨⟨_, rfl⟩, rfl⟩
        · go_ret
          exact ⟨⟨_, rfl⟩, rfl⟩
        · exact ⟨⟨r + s.length, k + 1, by go_num, by go_num, by omega, by omega⟩, by simp [intOf]; omega⟩
      · go_wp2
        all_goals (go_ret; exact ⟨⟨_, rfl⟩, rfl⟩)
  · go_enter Try.func27, Try.ntmps27
    go_wp2
    go_ret
    exact ⟨⟨_, rfl⟩, rfl⟩

/-- All subjects of the list are valid. -/
theorem subjects_any (p : Option Addr) (n c : Nat) (ls : List Bs) (w : World) (h : SRow w p n c ls) (hn : n ≤ 1048576) (hall : ∀ l ∈ ls, l.length ≤ 1048576) :
    Calls Try.prog 29 #[.slice p n c] w fun e w' => e = .returned (.bool (ls.all (vf []))) ∧ w' = w := by
  have H := hidC h
  have Hlen := hidC h.len
  have Hall := hidC hall
  clear h hall
  go_enter Try.func29, Try.ntmps29
  go_wp2_with fail
  go_loop [3] (fun i => ∃ k : Nat, i = .int .i64 k ∧ k ≤ n ∧ Hid (∀ j, j < k → vf [] (ls.getD j []) = true)) (fun i => n - (intOf i).toNat)
  case atStart => exact ⟨0, rfl, Nat.zero_le _, fun j hj => absurd hj (Nat.not_lt_zero _)⟩
  case round =>
    obtain ⟨k, rfl, hk, hv⟩ := hrel
    by_cases hlt : k < n
    · obtain ⟨ad, rfl, hc⟩ := H.out.at hlt
      have hmem := getD_mem (ls := ls) (k := k) (by have := Hlen.out; omega)
      have hl := Hall.out _ hmem
      have Hmem := hidC hmem
      clear hmem
      generalize hs : ls.getD k [] = s at hc hl Hmem
      have Hs := hidC hs
      clear hs
      have hval := hidC (fun W => valid_any ⟨s.toArray⟩ W (by simpa [ByteArray.size] using hl))
      cases hvs : vf [] s
      · have hfin : Hid (false = ls.all (vf [])) := by
          show _ = _
          cases hq : ls.all (vf [])
          · rfl
          · rw [List.all_eq_true] at hq; have := hq s Hmem.out; rw [hvs] at this; cases this
        go_wp2_with (go_at_call 28; refine (hval.out _).mono ?_; rintro e w' ⟨rfl, rfl⟩)
        go_ret
        exact ⟨ret_bool hfin.out, rfl⟩
      · go_wp2_with (go_at_call 28; refine (hval.out _).mono ?_; rintro e w' ⟨rfl, rfl⟩)
        refine ⟨⟨k + 1, by go_num, by omega, ?_⟩, by simp [intOf]; omega⟩
        intro j hj
        by_cases e : j = k
        · rw [e, Hs.out]; exact hvs
        · exact hv.out j (by omega)
    · have hfin : Hid (true = ls.all (vf [])) := by
        show _ = _
        rw [eq_comm, List.all_eq_true]
        intro l hl
        obtain ⟨j, hj, rfl⟩ := List.getElem_of_mem hl
        have := hv.out j (by have := Hlen.out; omega)
        rw [getD_at hj] at this
        exact this
      go_wp2_with fail
      go_ret
      exact ⟨ret_bool hfin.out, rfl⟩

/-! ### A copy -/

theorem info9 : (Try.prog.info? 9).map (fun i => (i.zero, i.size, i.bytes)) = some (some (.string ⟨#[]⟩), 1, 16) := by kernel_rfl

theorem made_at (z : Value) (n k : Nat) (hk : k < n) : (madeCells #[z] n)[k]? = some z := by
  simp [madeCells, hk, Nat.mod_one]

/-- A row of one's own. -/
def RowAt (w : World) (b : Nat) (vs : List Bs) : Prop := w.heap[b]? = some (.cells (vs.map S).toArray 9)

theorem setCell_row {w : World} {b k : Nat} {A : Array Value} {e : TypeId} {v : Value} (h : w.heap[b]? = some (.cells A e)) :
    (w.setCell ⟨b, k, none⟩ v).heap[b]? = some (.cells (A.setIfInBounds k v) e) ∧ (w.setCell ⟨b, k, none⟩ v).heap.size = w.heap.size := by
  constructor
  · simp [World.setCell, Array.getElem?_modify, h]
  · simp [World.setCell]

def CopyRel (w : World) (n : Nat) (ls : List Bs) (i : Value) (wr : World) : Prop :=
  ∃ (k : Nat) (A : Array Value), i = .int .i64 k ∧ k ≤ n ∧ wr.heap[w.heap.size]? = some (.cells A 9) ∧ A.size = n ∧ wr.heap.size = w.heap.size + 1 ∧ Below w.heap.size w wr ∧ ∀ j, j < k → A[j]? = some (S (ls.getD j []))

set_option maxHeartbeats 400000 in
theorem copy_any (ad : Addr) (n c : Nat) (ls : List Bs) (w : World) (h : SRow w (some ad) n c ls) (hn : n ≤ 1048576) :
    Calls Try.prog 14 #[.slice (some ad) n c] w fun e w' => e = .returned (.slice (some ⟨w.heap.size, 0, none⟩) n n) ∧ RowAt w' w.heap.size ls ∧ w'.heap.size = w.heap.size + 1 ∧ Below w.heap.size w w' := by
  have H := hidC h
  have Hlen := hidC h.len
  clear h
  have hmk := fun W => run_make_row' (P := Try.prog) 22 9 (.string ⟨#[]⟩) 16 Try.underlying22 info9 rfl .i64 .i64 n (by omega) (by omega) W
  have heq := fun W => Lib.run_eql_slice_nil (P := Try.prog) W 22 9 (some ad) n c 0 0 Try.underlying22
  have hstart : CopyRel w n ls (.int .i64 0) (w.alloc (.cells (madeCells #[.string ⟨#[]⟩] n) 9)) :=
    ⟨0, _, rfl, Nat.zero_le _, (MapKept.heap_alloc w _).1, size_madeCells _ _, by simp, (Below.refl _ _).alloc (Nat.le_refl _) _, fun j hj => absurd hj (Nat.not_lt_zero _)⟩
  go_enter Try.func14, Try.ntmps14
  go_wp2
  go_loopw [4] (fun i wr => CopyRel w n ls i wr) (fun i _ => n - (intOf i).toNat)
  case atStart => exact hstart
  case round =>
    obtain ⟨k, A, rfl, hk, hrow, hA, hz, hbel, hall⟩ := hrel
    clear hstart
    by_cases hlt : k < n
    · obtain ⟨ad', hp, hc0⟩ := H.out.at hlt
      cases hp
      have hc : wr.cell? (ad.add k) = some (S (ls.getD k [])) := by
        rw [hbel.cell (block_lt_of_cell hc0)]; exact hc0
      have hcd : wr.cell? ⟨w.heap.size, k, none⟩ = A[k]? := by simp [World.cell?, hrow]
      obtain ⟨v, hv⟩ : ∃ v, A[k]? = some v := ⟨_, Array.getElem?_eq_getElem (by omega)⟩
      rw [hv] at hcd
      have hfd : wr.frozen? ⟨w.heap.size, k, none⟩ = false := by simp [World.frozen?, hrow]
      have HB := hidC hbel
      have HA := hidC hall
      have HR := hidC hrow
      have HZ := hidC hz
      generalize hs : ls.getD k [] = s at hc
      have Hs := hidC hs
      clear hs hc0 hbel hall hrow hz hv
      go_wp2
      have hset := setCell_row (k := k) (v := S s) HR.out
      refine ⟨⟨k + 1, A.setIfInBounds k (S s), by go_num, by omega, hset.1, by simpa using hA, hset.2.trans HZ.out, HB.out.setCell (Nat.le_refl _) _, ?_⟩, by simp [intOf]; omega⟩
      intro j hj
      by_cases e : j = k
      · subst e
        rw [Array.getElem?_setIfInBounds_self_of_lt (by omega), Hs.out]
      · rw [Array.getElem?_setIfInBounds_ne (Ne.symm e)]
        exact HA.out j (by omega)
    · have HB := hidC hbel
      have HA := hidC hall
      have HR := hidC hrow
      have HZ := hidC hz
      clear hbel hall hrow hz
      go_wp2
      go_ret
      refine ⟨rfl, ?_, HZ.out, HB.out⟩
      show _ = _
      rw [HR.out]
      have hAe : A = (ls.map S).toArray := by
        apply Array.ext_getElem?
        intro j
        have hl := Hlen.out
        by_cases hj : j < n
        · rw [HA.out j (by omega)]
          simp [List.getElem?_eq_getElem (show j < ls.length by omega)]
        · rw [Array.getElem?_eq_none (by omega)]
          simp [List.getElem?_eq_none (show ls.length ≤ j by omega)]
      rw [hAe]

theorem copy_nil (w : World) : Calls Try.prog 14 #[.slice none 0 0] w fun e w' => e = .returned (.slice none 0 0) ∧ w' = w := by
  have heq := fun W => Lib.run_eql_slice_nil (P := Try.prog) W 22 9 none 0 0 0 0 Try.underlying22
  go_enter Try.func14, Try.ntmps14
  go_wp2
  go_ret
  exact ⟨rfl, rfl⟩

/-- Behind a copy: nil, or a row of one's own. -/
def Copied (w w' : World) (p' : Option Addr) (n : Nat) (ls : List Bs) : Prop :=
  n = ls.length ∧ ((p' = none ∧ n = 0 ∧ w' = w) ∨ (p' = some ⟨w.heap.size, 0, none⟩ ∧ RowAt w' w.heap.size ls ∧ w'.heap.size = w.heap.size + 1)) ∧ Below w.heap.size w w'

theorem rowAt_cell {w : World} {b : Nat} {ls : List Bs} (h : RowAt w b ls) {i : Nat} (hi : i < ls.length) : w.cell? ⟨b, i, none⟩ = some (S (ls.getD i [])) := by
  unfold RowAt at h
  simp [World.cell?, h, List.getElem?_eq_getElem hi]

theorem Copied.row {w w' : World} {p' : Option Addr} {n : Nat} {ls : List Bs} (h : Copied w w' p' n ls) : SRow w' p' n n ls := by
  obtain ⟨h1, h2, _⟩ := h
  refine ⟨h1, Nat.le_refl _, ?_⟩
  rcases h2 with ⟨h2, h3, _⟩ | ⟨h2, h3, _⟩
  · exact .inl ⟨h2, h3, h3⟩
  · refine .inr ⟨_, h2, fun i hi => ?_⟩
    have := rowAt_cell h3 (i := i) (by omega)
    rw [Go.WideShapes.add_plain, Nat.zero_add]; exact this

theorem copy_all (p : Option Addr) (n c : Nat) (ls : List Bs) (w : World) (h : SRow w p n c ls) (hn : n ≤ 1048576) :
    Calls Try.prog 14 #[.slice p n c] w fun e w' => ∃ p', e = .returned (.slice p' n n) ∧ Copied w w' p' n ls := by
  rcases h.2.2 with ⟨rfl, rfl, rfl⟩ | ⟨ad, rfl, _⟩
  · refine (copy_nil w).mono ?_
    rintro e w' ⟨rfl, rfl⟩
    exact ⟨none, rfl, h.1, .inl ⟨rfl, rfl, rfl⟩, Below.refl _ _⟩
  · refine (copy_any ad n c ls w h hn).mono ?_
    rintro e w' ⟨rfl, h1, h2, h3⟩
    exact ⟨_, rfl, h.1, .inr ⟨rfl, h1, h2⟩, h3⟩

end Go.Proofs.Qxb6602990a
