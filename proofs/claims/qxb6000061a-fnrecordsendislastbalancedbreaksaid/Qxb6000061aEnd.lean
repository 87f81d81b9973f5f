/-
  recordsEnd.
-/
import Derived.Test.Qxb6000061aWalk
namespace Go.Proofs.Qxb6000061a
open Go.RowKit Pl

theorem rowAt_cell {w : World} {b : Nat} {vs : List Int} (h : RowAt w b vs) {i : Nat} (hi : i < vs.length) : w.cell? ⟨b, i, none⟩ = some (.int .u8 (vs.getD i 0)) := by
  unfold RowAt at h
  simp [World.cell?, h, List.getElem?_eq_getElem hi]

theorem row_cells {W wr : World} {b n : Nat} {xs : List Int} (h : RowAt W b xs) (hx : xs.length = n) (hb : b < W.heap.size) (hB : Below W.heap.size W wr) :
    ∀ i, i < n → wr.cell? ⟨b, i, none⟩ = some (.int .u8 (xs.getD i 0)) := by
  intro i hi
  rw [hB.cell (p := ⟨b, i, none⟩) hb]
  exact rowAt_cell h (by omega)

theorem qc_all {xs : List Int} {n : Nat} (hx : xs.length = n) : (xs.countP fun x => x == 34) = qc xs n := by
  unfold qc; rw [List.take_of_length_le (by omega)]

set_option maxHeartbeats 1000000 in
theorem end_row (b n : Nat) (xs : List Int) (W : World) (hrow : RowAt W b xs) (hx : xs.length = n) (hn : n ≤ 1048576) (hb : b < W.heap.size) (hr : ∀ x ∈ xs, 0 ≤ x ∧ x ≤ 255) :
    Calls Try.prog 47 #[.slice (some ⟨b, 0, none⟩) n n] W fun e w' => e = .returned (.int .i64 (best xs n)) ∧ Below W.heap.size W w' := by
  have HW := hidC hrow
  have Hx := hidC hx
  have Hr := hidC hr
  have B0 : Hid (Below W.heap.size W (W.alloc (.cells #[.int .u8 34] 5))) := (Below.refl _ _).alloc (Nat.le_refl _) _
  have HC : Hid (Calls Try.prog 48 #[.slice (some ⟨b, 0, none⟩) n n, .slice (some ⟨W.heap.size, 0, none⟩) 1 1] (W.alloc (.cells #[.int .u8 34] 5)) fun e w' => e = .returned (.int .i64 (qc xs n)) ∧ w' = W.alloc (.cells #[.int .u8 34] 5)) := by
    have := Try.bytes_Count_one_at ⟨b, 0, none⟩ n n W.heap.size 0 1 xs 34 (W.alloc (.cells #[.int .u8 34] 5)) hx (fun i hi => by rw [Go.WideShapes.add_plain, Nat.zero_add]; exact row_cells hrow hx hb B0.out i hi) ((World.cell?_alloc_at _ _ _ _ rfl).trans rfl)
    rw [count_of hr, qc_all hx] at this
    exact this
  clear hrow hx hr
  go_enter Try.func47, Try.ntmps47
  go_wp2_with fail
  refine HC.out.mono ?_
  rintro e w' ⟨rfl, rfl⟩
  clear HC
  generalize W.alloc (.cells #[.int .u8 34] 5) = w1 at B0 ⊢
  go_wp2_with fail
  go_loopw [3, 4] (fun q e wr => ∃ k : Nat, e = .int .i64 k ∧ k ≤ n ∧ q = .int .i64 (qc xs k) ∧ Hid (best xs n = best xs k) ∧ Hid (Below W.heap.size W wr)) (fun _ e _ => (intOf e).toNat)
  case atStart => exact ⟨n, rfl, Nat.le_refl _, rfl, rfl, B0⟩
  case round =>
    obtain ⟨k, rfl, hk, rfl, hbest, hB⟩ := hrel
    have HL := hidC (lastIndex_row ⟨b, 0, none⟩ k n xs 10 wr (by omega) (fun i hi => by rw [Go.WideShapes.add_plain, Nat.zero_add]; exact row_cells HW.out Hx.out hb hB.out i (by omega)))
    go_wp2_with fail
    refine HL.out.mono ?_
    rintro e w' ⟨⟨r, rfl, hr⟩, rfl⟩
    clear HL
    rcases hr.out with ⟨rfl, hno⟩ | ⟨i, rfl, hi, h10, hno⟩
    · have Hfin : Hid (best xs n = 0) := by show _ = _; rw [hbest.out]; exact best_zero hno
      clear hno hr
      go_wp2_with fail
      go_ret
      exact ⟨ret_int (by rw [Hfin.out]; rfl), hB.out⟩
    · have hpart := qc_part xs (i := i) (e := k) (by omega)
      have hskip : best xs k = best xs (i + 1) := best_skip (by omega) (fun j h1 h2 => hno j (by omega) h2)
      have hgood : good xs i = (qc xs i % 2 == 0) := by unfold good; rw [h10]; rfl
      have hstep : best xs (i + 1) = if good xs i then i + 1 else best xs i := rfl
      rw [hgood] at hstep
      clear hno hr h10
      have Hskip := hidC hskip
      have Hstep := hidC hstep
      clear hskip hgood hstep
      have B1 : Hid (Below W.heap.size W (w'.alloc (.cells #[.int .u8 34] 5))) := hB.out.alloc hB.out.size _
      have hql := qc_le xs k
      have Hsub : Hid (∀ x ∈ (xs.drop i).take (k - i), 0 ≤ x ∧ x ≤ 255) := fun x hx => Hr.out x (List.mem_of_mem_drop (List.mem_of_mem_take hx))
      have HC : Hid (Calls Try.prog 48 #[.slice (some ⟨b, i, none⟩) (k - i) (n - i), .slice (some ⟨w'.heap.size, 0, none⟩) 1 1] (w'.alloc (.cells #[.int .u8 34] 5)) fun e w2 => e = .returned (.int .i64 (((xs.drop i).take (k - i)).countP fun x => x == 34)) ∧ w2 = w'.alloc (.cells #[.int .u8 34] 5)) := by
        have hl : ((xs.drop i).take (k - i)).length = k - i := by have := Hx.out; simp; omega
        have := Try.bytes_Count_one_at ⟨b, i, none⟩ (k - i) (n - i) w'.heap.size 0 1 ((xs.drop i).take (k - i)) 34 (w'.alloc (.cells #[.int .u8 34] 5)) hl (fun j hj => by
          rw [Go.WideShapes.add_plain]
          have hc := row_cells HW.out Hx.out hb B1.out (i + j) (by omega)
          rw [show ({ block := b, off := i + j } : Addr) = ⟨b, i + j, none⟩ from rfl, hc]
          simp [hj, List.getElem?_drop]) ((World.cell?_alloc_at _ _ _ _ rfl).trans rfl)
        rw [count_of Hsub.out] at this
        exact this
      generalize ((xs.drop i).take (k - i)).countP (fun x => x == 34) = cnt at hpart HC
      have Hpart := hidC hpart
      clear hpart
      generalize qc xs k = qk at hql Hpart ⊢
      go_wp2_with fail
      refine HC.out.mono ?_
      rintro e w2 ⟨rfl, rfl⟩
      clear HC
      generalize w'.alloc (.cells #[.int .u8 34] 5) = w2 at B1 ⊢
      have hsub : (qk : Int) - (cnt : Int) = (qc xs i : Nat) := by have := Hpart.out; omega
      have hqi := qc_le xs i
      by_cases hev : qc xs i % 2 = 0
      · have Hfin : Hid (best xs n = i + 1) := by show _ = _; rw [hbest.out, Hskip.out, Hstep.out]; simp [hev]
        generalize qc xs i = qi at hsub hev hqi
        have hev' : ((qi : Int)).tmod 2 = 0 := by rw [Int.tmod_eq_emod_of_nonneg (by omega)]; omega
        go_wp2_with fail
        go_ret
        exact ⟨ret_int (by rw [Hfin.out]; go_num), B1.out⟩
      · have Hfin : Hid (best xs n = best xs i) := by show _ = _; rw [hbest.out, Hskip.out, Hstep.out]; simp [hev]
        generalize hqe : qc xs i = qi at hsub hev hqi
        have Hqe := hidC hqe
        clear hqe
        have hev' : ((qi : Int)).tmod 2 = 1 := by rw [Int.tmod_eq_emod_of_nonneg (by omega)]; omega
        go_wp2_with fail
        exact ⟨⟨i, rfl, by omega, by rw [Hqe.out], Hfin, B1⟩, by simp [intOf]; omega⟩

theorem end_nil (W : World) : Calls Try.prog 47 #[.slice none 0 0] W fun e w' => e = .returned (.int .i64 0) ∧ Below W.heap.size W w' := by
  have B0 : Hid (Below W.heap.size W (W.alloc (.cells #[.int .u8 34] 5))) := (Below.refl _ _).alloc (Nat.le_refl _) _
  have HC := hidC (Try.bytes_Count_one_nil W.heap.size 0 1 34 (W.alloc (.cells #[.int .u8 34] 5)) ((World.cell?_alloc_at _ _ _ _ rfl).trans rfl))
  go_enter Try.func47, Try.ntmps47
  go_wp2_with fail
  refine HC.out.mono ?_
  rintro e w' ⟨rfl, rfl⟩
  clear HC
  generalize W.alloc (.cells #[.int .u8 34] 5) = w1 at B0 ⊢
  go_wp2_with fail
  go_loopw [3, 4] (fun q e wr => e = .int .i64 0 ∧ q = .int .i64 0 ∧ wr = w1) (fun _ _ _ => 0)
  case atStart => exact ⟨rfl, rfl, rfl⟩
  case round =>
    obtain ⟨rfl, rfl, rfl⟩ := hrel
    go_wp2_with fail
    refine (lastIndex_nil 10 _).mono ?_
    rintro e w' ⟨rfl, rfl⟩
    go_wp2_with fail
    go_ret
    exact ⟨rfl, B0.out⟩

theorem zend_row (b n : Nat) (xs : List Int) (W : World) (hrow : RowAt W b xs) (hx : xs.length = n) (hn : n ≤ 1048576) (hb : b < W.heap.size) (hr : ∀ x ∈ xs, 0 ≤ x ∧ x ≤ 255) :
    Calls Try.prog 32 #[.slice (some ⟨b, 0, none⟩) n n] W fun e w' => e = .returned (.int .i64 (best xs n)) ∧ Below W.heap.size W w' := by
  have HE := hidC (end_row b n xs W hrow hx hn hb hr)
  clear hrow hx hr
  go_enter Try.func32, Try.ntmps32
  go_wp2_with fail
  refine HE.out.mono ?_
  rintro e w' ⟨rfl, hB⟩
  have HB := hidC hB
  clear hB HE
  go_wp2_with fail
  go_ret
  exact ⟨rfl, HB.out⟩

theorem zend_nil (W : World) : Calls Try.prog 32 #[.slice none 0 0] W fun e w' => e = .returned (.int .i64 0) ∧ Below W.heap.size W w' := by
  go_enter Try.func32, Try.ntmps32
  go_wp2_with fail
  refine (end_nil _).mono ?_
  rintro e w' ⟨rfl, hB⟩
  have HB := hidC hB
  clear hB
  go_wp2_with fail
  go_ret
  exact ⟨rfl, HB.out⟩

theorem law_row (ad : Addr) (n c : Nat) (xs : List Int) (w : World) (h : BRow w (some ad) n c xs) (hn : n ≤ 1048576) :
    Calls Try.prog 6 #[.slice (some ad) n c] w fun e w' => e = .returned (.bool true) ∧ Below w.heap.size w w' := by
  have HG := hidC (guard_any (some ad) n c w hn)
  have HC := hidC (copy_any ad n c xs w h hn)
  have Hx := hidC h.len
  have Hr := hidC h.2.2.1
  clear h
  go_enter Try.func6, Try.ntmps6
  go_wp2_with fail
  refine HG.out.mono ?_
  rintro e w' ⟨rfl, rfl⟩
  go_wp2_with fail
  refine HC.out.mono ?_
  rintro e w1 ⟨rfl, hrow, hz, hB⟩
  have HZ := hidC (zend_row w'.heap.size n xs w1 hrow Hx.out hn (by omega) Hr.out)
  have HB := hidC hB
  have HR := hidC hrow
  have hlt : w'.heap.size < w1.heap.size := by omega
  clear hrow hz hB HC HG
  go_wp2_with fail
  refine HZ.out.mono ?_
  rintro e w2 ⟨rfl, hB2⟩
  have HM := hidC (model_row ⟨w'.heap.size, 0, none⟩ n n xs w2 Hx.out hn (fun i hi => by rw [Go.WideShapes.add_plain, Nat.zero_add]; exact row_cells HR.out Hx.out hlt hB2 i hi))
  have HB2 : Hid (Below w'.heap.size w' w2) := HB.out.trans (hB2.mono HB.out.size)
  clear hB2 HZ HR
  generalize best xs n = r at HM ⊢
  go_wp2_with fail
  refine HM.out.mono ?_
  rintro e w3 ⟨rfl, rfl⟩
  clear HM
  go_wp2_with fail
  go_ret
  exact ⟨by simp, HB2.out⟩

theorem law_nil (w : World) : Calls Try.prog 6 #[.slice none 0 0] w fun e w' => e = .returned (.bool true) ∧ Below w.heap.size w w' := by
  go_enter Try.func6, Try.ntmps6
  go_wp2_with fail
  refine (guard_any none 0 0 _ (by omega)).mono ?_
  rintro e w' ⟨rfl, rfl⟩
  go_wp2_with fail
  refine (copy_nil _).mono ?_
  rintro e w1 ⟨rfl, rfl⟩
  go_wp2_with fail
  refine (zend_nil _).mono ?_
  rintro e w2 ⟨rfl, hB⟩
  have HB := hidC hB
  clear hB
  go_wp2_with fail
  refine (model_nil _).mono ?_
  rintro e w3 ⟨rfl, rfl⟩
  go_wp2_with fail
  go_ret
  exact ⟨rfl, HB.out⟩

theorem law_far (p : Option Addr) (n c : Nat) (w : World) (hn : 1048576 < n) : Calls Try.prog 6 #[.slice p n c] w fun e w' => e = .returned (.bool true) ∧ Below w.heap.size w w' := by
  go_enter Try.func6, Try.ntmps6
  go_wp2_with fail
  refine (guard_far p n c _ hn).mono ?_
  rintro e w' ⟨rfl, rfl⟩
  go_wp2_with fail
  go_ret
  exact ⟨rfl, Below.refl _ _⟩
end Go.Proofs.Qxb6000061a
