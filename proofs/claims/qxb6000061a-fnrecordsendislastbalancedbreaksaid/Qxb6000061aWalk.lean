/-
  The walks: the bound, the copy, the last break, the two ends.
-/
import Derived.Test.Qxb6000061aPlain
import Derived.Test.Qxb6000061aShelf
import Derived.WalkKit
import Derived.ProofKit
import Derived.OpenShut
import Derived.Below
import Derived.Deep.OwnRows
import Derived.Lib.SliceRun
import Derived.Maps.OwnOps
namespace Go.Proofs.Qxb6000061a
open Go.RowKit Pl

theorem hidC {p : Prop} (h : p) : Hid p := h
theorem ret_int {a b : Int} (h : a = b) : Ending.returned (.int .i64 a) = .returned (.int .i64 b) := by rw [h]

/-- The slice's bytes in this world. -/
def BRow (w : World) (p : Option Addr) (n c : Nat) (xs : List Int) : Prop :=
  n = xs.length ∧ n ≤ c ∧ (∀ x ∈ xs, 0 ≤ x ∧ x ≤ 255) ∧ ((p = none ∧ n = 0 ∧ c = 0) ∨ ∃ ad : Addr, p = some ad ∧ ∀ i, i < n → w.cell? (ad.add i) = some (.int .u8 (xs.getD i 0)))

theorem BRow.len {w : World} {p : Option Addr} {n c : Nat} {xs : List Int} (h : BRow w p n c xs) : xs.length = n := h.1.symm

theorem getD_rng {xs : List Int} (h : ∀ x ∈ xs, 0 ≤ x ∧ x ≤ 255) (k : Nat) : 0 ≤ xs.getD k 0 ∧ xs.getD k 0 ≤ 255 := by
  rw [List.getD_eq_getElem?_getD]
  cases e : xs[k]? with
  | none => exact ⟨Int.le_refl _, by decide⟩
  | some x => exact h x (List.mem_of_getElem? e)

/-! ### The bound -/
theorem guard_any (p : Option Addr) (n c : Nat) (w : World) (hn : n ≤ 1048576) :
    Calls Try.prog 30 #[.slice p n c] w fun e w' => e = .returned (.bool true) ∧ w' = w := by
  go_enter Try.func30, Try.ntmps30
  go_wp2
  go_ret
  exact ⟨rfl, rfl⟩

theorem guard_far (p : Option Addr) (n c : Nat) (w : World) (hn : 1048576 < n) :
    Calls Try.prog 30 #[.slice p n c] w fun e w' => e = .returned (.bool false) ∧ w' = w := by
  go_enter Try.func30, Try.ntmps30
  go_wp2
  go_ret
  exact ⟨rfl, rfl⟩

/-! ### The copy -/
theorem info5 : (Try.prog.info? 5).map (fun i => (i.zero, i.size, i.bytes)) = some (some (.int .u8 0), 1, 1) := by kernel_rfl

/-- A row of one's own. -/
def RowAt (w : World) (b : Nat) (vs : List Int) : Prop := w.heap[b]? = some (.cells (vs.map (Value.int .u8)).toArray 5)

theorem setCell_row {w : World} {b k : Nat} {A : Array Value} {e : TypeId} {v : Value} (h : w.heap[b]? = some (.cells A e)) :
    (w.setCell ⟨b, k, none⟩ v).heap[b]? = some (.cells (A.setIfInBounds k v) e) ∧ (w.setCell ⟨b, k, none⟩ v).heap.size = w.heap.size := by
  constructor
  · simp [World.setCell, Array.getElem?_modify, h]
  · simp [World.setCell]

def CopyRel (w : World) (n : Nat) (xs : List Int) (i : Value) (wr : World) : Prop :=
  ∃ (k : Nat) (A : Array Value), i = .int .i64 k ∧ k ≤ n ∧ wr.heap[w.heap.size]? = some (.cells A 5) ∧ A.size = n ∧ wr.heap.size = w.heap.size + 1 ∧ Below w.heap.size w wr ∧ ∀ j, j < k → A[j]? = some (.int .u8 (xs.getD j 0))

set_option maxHeartbeats 400000 in
theorem copy_any (ad : Addr) (n c : Nat) (xs : List Int) (w : World) (h : BRow w (some ad) n c xs) (hn : n ≤ 1048576) :
    Calls Try.prog 31 #[.slice (some ad) n c] w fun e w' => e = .returned (.slice (some ⟨w.heap.size, 0, none⟩) n n) ∧ RowAt w' w.heap.size xs ∧ w'.heap.size = w.heap.size + 1 ∧ Below w.heap.size w w' := by
  have H := hidC h
  have Hlen := hidC h.len
  clear h
  have hmk := fun W => run_make_row' (P := Try.prog) 60 5 (.int .u8 0) 1 Try.underlying60 info5 rfl .i64 .i64 n (by omega) (by omega) W
  have heq := fun W => Lib.run_eql_slice_nil (P := Try.prog) W 60 5 (some ad) n c 0 0 Try.underlying60
  have hstart : CopyRel w n xs (.int .i64 0) (w.alloc (.cells (madeCells #[.int .u8 0] n) 5)) :=
    ⟨0, _, rfl, Nat.zero_le _, (MapKept.heap_alloc w _).1, size_madeCells _ _, by simp, (Below.refl _ _).alloc (Nat.le_refl _) _, fun j hj => absurd hj (Nat.not_lt_zero _)⟩
  go_enter Try.func31, Try.ntmps31
  go_wp2
  go_loopw [4] (fun i wr => CopyRel w n xs i wr) (fun i _ => n - (intOf i).toNat)
  case atStart => exact hstart
  case round =>
    obtain ⟨k, A, rfl, hk, hrow, hA, hz, hbel, hall⟩ := hrel
    clear hstart
    by_cases hlt : k < n
    · obtain ⟨_, _, hrng, hcs⟩ := H.out
      have hc0 : w.cell? (ad.add k) = some (.int .u8 (xs.getD k 0)) := by
        rcases hcs with ⟨h0, _⟩ | ⟨ad', hp, hcc⟩
        · cases h0
        · cases hp; exact hcc k hlt
      have hc : wr.cell? (ad.add k) = some (.int .u8 (xs.getD k 0)) := by
        rw [hbel.cell (block_lt_of_cell hc0)]; exact hc0
      have hcd : wr.cell? ⟨w.heap.size, k, none⟩ = A[k]? := by simp [World.cell?, hrow]
      obtain ⟨v, hv⟩ : ∃ v, A[k]? = some v := ⟨_, Array.getElem?_eq_getElem (by omega)⟩
      rw [hv] at hcd
      have hfd : wr.frozen? ⟨w.heap.size, k, none⟩ = false := by simp [World.frozen?, hrow]
      have HB := hidC hbel
      have HA := hidC hall
      have HR := hidC hrow
      have HZ := hidC hz
      generalize hs : xs.getD k 0 = s at hc
      have Hs := hidC hs
      clear hs hc0 hbel hall hrow hz hv hrng hcs
      go_wp2
      have hset := setCell_row (k := k) (v := .int .u8 s) HR.out
      refine ⟨⟨k + 1, A.setIfInBounds k (.int .u8 s), by go_num, by omega, hset.1, by simpa using hA, hset.2.trans HZ.out, HB.out.setCell (Nat.le_refl _) _, ?_⟩, by simp [intOf]; omega⟩
      intro j hj
      by_cases e : j = k
      · subst e
        rw [Array.getElem?_setIfInBounds_self_of_lt (by omega), Hs.out]
      · rw [Array.getElem?_setIfInBounds_ne (Ne.symm e)]
        exact HA.out j (by omega)
    · have HB := hidC hbel
      have HA := hidC hall
      have HR := hidC hrow
      have HZ := hidC hz
      clear hbel hall hrow hz
      go_wp2
      go_ret
      refine ⟨rfl, ?_, HZ.out, HB.out⟩
      show _ = _
      rw [HR.out]
      have hAe : A = (xs.map (Value.int .u8)).toArray := by
        apply Array.ext_getElem?
        intro j
        have hl := Hlen.out
        by_cases hj : j < n
        · rw [HA.out j (by omega)]
          simp [List.getElem?_eq_getElem (show j < xs.length by omega)]
        · rw [Array.getElem?_eq_none (by omega)]
          simp [List.getElem?_eq_none (show xs.length ≤ j by omega)]
      rw [hAe]

theorem copy_nil (w : World) : Calls Try.prog 31 #[.slice none 0 0] w fun e w' => e = .returned (.slice none 0 0) ∧ w' = w := by
  have heq := fun W => Lib.run_eql_slice_nil (P := Try.prog) W 60 5 none 0 0 0 0 Try.underlying60
  go_enter Try.func31, Try.ntmps31
  go_wp2
  go_ret
  exact ⟨rfl, rfl⟩

/-! ### The last break -/
/-- What LastIndexByte answers. -/
def LastOf (xs : List Int) (n : Nat) (cv r : Int) : Prop :=
  (r = -1 ∧ ∀ j, j < n → xs.getD j 0 ≠ cv) ∨ ∃ i : Nat, r = i ∧ i < n ∧ xs.getD i 0 = cv ∧ ∀ j, i < j → j < n → xs.getD j 0 ≠ cv

set_option maxHeartbeats 400000 in
theorem last_row (ad : Addr) (n c : Nat) (xs : List Int) (cv : Int) (w : World) (hn : n ≤ 1048576) (hc : ∀ i, i < n → w.cell? (ad.add i) = some (.int .u8 (xs.getD i 0))) :
    Calls Try.prog 53 #[.slice (some ad) n c, .int .u8 cv] w fun e w' => (∃ r, e = .returned (.int .i64 r) ∧ Hid (LastOf xs n cv r)) ∧ w' = w := by
  have H := hidC hc
  clear hc
  go_enter Try.func53, Try.ntmps53
  go_wp2_with fail
  go_loop [5] (fun i => ∃ k : Nat, i = .int .i64 ((k : Int) - 1) ∧ k ≤ n ∧ Hid (∀ j, k ≤ j → j < n → xs.getD j 0 ≠ cv)) (fun i => (intOf i + 1).toNat)
  case atStart => exact ⟨n, rfl, Nat.le_refl _, fun j h1 h2 => absurd h1 (by omega)⟩
  case round =>
    obtain ⟨k, rfl, hk, hno⟩ := hrel
    cases k with
    | zero =>
      go_wp2_with fail
      go_ret
      exact ⟨⟨_, rfl, .inl ⟨rfl, fun j hj => hno.out j (Nat.zero_le _) hj⟩⟩, rfl⟩
    | succ k =>
      have e1 : ((k + 1 : Nat) : Int) - 1 = k := by omega
      rw [e1]
      have hcc := H.out k (by omega)
      generalize hs : xs.getD k 0 = s at hcc
      have Hs := hidC hs
      clear hs
      by_cases he : s = cv
      · have He := hidC he
        go_wp2_with fail
        go_ret
        exact ⟨⟨_, rfl, .inr ⟨k, rfl, by omega, Hs.out.trans He.out, fun j h1 h2 => hno.out j (by omega) h2⟩⟩, rfl⟩
      · have He := hidC he
        go_wp2_with fail
        refine ⟨⟨k, by go_num, by omega, fun j h1 h2 => ?_⟩, by simp [intOf]⟩
        by_cases e : j = k
        · subst e; rw [Hs.out]; exact He.out
        · exact hno.out j (by omega) h2

theorem last_nil (cv : Int) (w : World) : Calls Try.prog 53 #[.slice none 0 0, .int .u8 cv] w fun e w' => e = .returned (.int .i64 (-1)) ∧ w' = w := by
  go_enter Try.func53, Try.ntmps53
  go_wp2_with fail
  go_loop [5] (fun i => i = .int .i64 (-1)) (fun _ => 0)
  case atStart => rfl
  case round =>
    subst hrel
    go_wp2_with fail
    go_ret
    exact ⟨rfl, rfl⟩

theorem lastIndex_row (ad : Addr) (n c : Nat) (xs : List Int) (cv : Int) (w : World) (hn : n ≤ 1048576) (hc : ∀ i, i < n → w.cell? (ad.add i) = some (.int .u8 (xs.getD i 0))) :
    Calls Try.prog 49 #[.slice (some ad) n c, .int .u8 cv] w fun e w' => (∃ r, e = .returned (.int .i64 r) ∧ Hid (LastOf xs n cv r)) ∧ w' = w := by
  have H := hidC (last_row ad n c xs cv w hn hc)
  clear hc
  go_enter Try.func49, Try.ntmps49
  go_wp2_with fail
  refine H.out.mono ?_
  rintro e w' ⟨⟨r, rfl, hr⟩, rfl⟩
  go_wp2_with fail
  go_ret
  exact ⟨⟨_, rfl, hr⟩, rfl⟩

theorem lastIndex_nil (cv : Int) (w : World) : Calls Try.prog 49 #[.slice none 0 0, .int .u8 cv] w fun e w' => e = .returned (.int .i64 (-1)) ∧ w' = w := by
  go_enter Try.func49, Try.ntmps49
  go_wp2_with fail
  refine (last_nil cv _).mono ?_
  rintro e w' ⟨rfl, rfl⟩
  go_wp2_with fail
  go_ret
  exact ⟨rfl, rfl⟩

/-! ### The model -/
set_option maxHeartbeats 1000000 in
theorem model_row (ad : Addr) (n c : Nat) (xs : List Int) (w : World) (hx : xs.length = n) (hn : n ≤ 1048576) (hc : ∀ i, i < n → w.cell? (ad.add i) = some (.int .u8 (xs.getD i 0))) :
    Calls Try.prog 33 #[.slice (some ad) n c] w fun e w' => e = .returned (.int .i64 (best xs n)) ∧ w' = w := by
  have H := hidC hc
  have Hx := hidC hx
  clear hc hx
  go_enter Try.func33, Try.ntmps33
  go_wp2_with fail
  go_loop [3, 4, 5] (fun b q i => ∃ k : Nat, i = .int .i64 k ∧ k ≤ n ∧ b = .int .i64 (best xs k) ∧ q = .int .i64 (qc xs k)) (fun _ _ i => n - (intOf i).toNat)
  case atStart => exact ⟨0, rfl, Nat.zero_le _, rfl, rfl⟩
  case round =>
    obtain ⟨k, rfl, hk, rfl, rfl⟩ := hrel
    by_cases hlt : k < n
    · have hcc := H.out k hlt
      have hq := qc_step (xs := xs) (k := k) (by rw [Hx.out]; exact hlt)
      have hql := qc_le xs k
      have hb : best xs (k + 1) = if good xs k then k + 1 else best xs k := rfl
      unfold good at hb
      generalize xs.getD k 0 = s at hcc hq hb
      generalize qc xs k = q at hq hql hb ⊢
      generalize best xs k = b at hb ⊢
      by_cases h34 : s = 34
      · subst h34
        have Hq : Hid (qc xs (k + 1) = q + 1) := by show _ = _; rw [hq]; simp
        have Hb : Hid (best xs (k + 1) = b) := by show _ = _; rw [hb]; simp
        clear hq hb
        go_wp2_with fail
        exact ⟨⟨k + 1, by go_num, by omega, by rw [Hb.out], by rw [Hq.out]; go_num⟩, by simp [intOf]; omega⟩
      · by_cases h10 : s = 10
        · subst h10
          have Hq : Hid (qc xs (k + 1) = q) := by show _ = _; rw [hq]; simp
          by_cases hev : q % 2 = 0
          · have Hb : Hid (best xs (k + 1) = k + 1) := by show _ = _; rw [hb]; simp [hev]
            have hev' : ((q : Int)).tmod 2 = 0 := by rw [Int.tmod_eq_emod_of_nonneg (by omega)]; omega
            clear hq hb
            go_wp2_with fail
            exact ⟨⟨k + 1, by go_num, by omega, by rw [Hb.out]; go_num, by rw [Hq.out]⟩, by simp [intOf]; omega⟩
          · have Hb : Hid (best xs (k + 1) = b) := by show _ = _; rw [hb]; simp [hev]
            have hev' : ((q : Int)).tmod 2 = 1 := by rw [Int.tmod_eq_emod_of_nonneg (by omega)]; omega
            clear hq hb
            go_wp2_with fail
            exact ⟨⟨k + 1, by go_num, by omega, by rw [Hb.out], by rw [Hq.out]⟩, by simp [intOf]; omega⟩
        · have Hq : Hid (qc xs (k + 1) = q) := by show _ = _; rw [hq]; simp [h34]
          have Hb : Hid (best xs (k + 1) = b) := by show _ = _; rw [hb]; simp [h10]
          clear hq hb
          go_wp2_with fail
          exact ⟨⟨k + 1, by go_num, by omega, by rw [Hb.out], by rw [Hq.out]⟩, by simp [intOf]; omega⟩
    · have hkn : k = n := by omega
      subst hkn
      go_wp2_with fail
      go_ret
      exact ⟨rfl, rfl⟩

theorem model_nil (w : World) : Calls Try.prog 33 #[.slice none 0 0] w fun e w' => e = .returned (.int .i64 0) ∧ w' = w := by
  go_enter Try.func33, Try.ntmps33
  go_wp2_with fail
  go_loop [3, 4, 5] (fun b q i => b = .int .i64 0 ∧ q = .int .i64 0 ∧ i = .int .i64 0) (fun _ _ _ => 0)
  case atStart => exact ⟨rfl, rfl, rfl⟩
  case round =>
    obtain ⟨rfl, rfl, rfl⟩ := hrel
    go_wp2_with fail
    go_ret
    exact ⟨rfl, rfl⟩
end Go.Proofs.Qxb6000061a
