/-
  The two tests of an id: the program's and the law's.
-/
import Derived.Test.Qxb6602922aByte
namespace Go.Proofs.Qxb6602922a.Key
open Go.RowKit Go.PlainAid

def allOk (s : ByteArray) : Nat → Bool
  | 0 => true
  | k + 1 => allOk s k && unrB (bt s k)
def keyB (s : ByteArray) : Bool := !decide (s.size = 0) && allOk s s.size

theorem allOk_no (s : ByteArray) : ∀ (n k : Nat), k < n → unrB (bt s k) = false → allOk s n = false
  | 0, _, h, _ => by omega
  | n + 1, k, h, hk => by
    by_cases e : k = n
    · subst e; simp [allOk, hk]
    · simp [allOk, allOk_no s n k (by omega) hk]
theorem keyB_no {s : ByteArray} {k : Nat} (h : k < s.size) (hk : unrB (bt s k) = false) : false = keyB s := by
  simp [keyB, allOk_no s _ k h hk]

theorem vend {s : ByteArray} {k : Nat} (hlt : k < s.size) (h : allOk s (k + 1) = true) :
    (∃ k1 : Nat, k1 ≤ s.size ∧ Value.int IntKind.i64 ((k : Int) + 1) = Value.int IntKind.i64 k1 ∧ allOk s k1 = true)
      ∧ s.size - (intOf (Value.int IntKind.i64 ((k : Int) + 1))).toNat < s.size - (intOf (Value.int IntKind.i64 k)).toNat :=
  ⟨⟨k + 1, by omega, by go_num, h⟩, by simp [intOf]; omega⟩

theorem unr_parts {c : Int} (h0 : 0 ≤ c) (h1 : c ≤ 255) (h : unrB c = true) : (65 ≤ c ∧ c ≤ 90) ∨ (97 ≤ c ∧ c ≤ 122) ∨ digB c = true ∨ 0 ≤ idxN c := by
  have := idx_iff h0 h1
  unfold unrB at h; unfold digB; have h := of_decide_eq_true h; rw [decide_eq_true_iff]; omega
theorem unr_not {c : Int} (h0 : 0 ≤ c) (h1 : c ≤ 255) (h : ¬ unrB c = true) : ¬ (65 ≤ c ∧ c ≤ 90) ∧ ¬ (97 ≤ c ∧ c ≤ 122) ∧ digB c = false ∧ idxN c < 0 := by
  have := idx_iff h0 h1
  unfold unrB at h; unfold digB; rw [decide_eq_true_iff] at h; rw [decide_eq_false_iff_not]; omega

theorem model_any (s : ByteArray) (w : World) (hs : s.size ≤ 1048576) :
    Calls Try.prog 18 #[.string s] w fun e w' => e = .returned (.bool (keyB s)) ∧ w' = w := by
  by_cases h0 : s.size = 0
  · have h0' : ((s.size : Int) == 0) = true := by simp [h0]
    have hu : Hid (keyB s = false) := by show keyB s = false; simp [keyB, h0]
    clear h0
    go_enter Try.func18, Try.ntmps18
    go_wp2
    go_ret
    exact ⟨ret_bool hu.out.symm, rfl⟩
  have h0' : ((s.size : Int) == 0) = false := beq_eq_false_iff_ne.2 (by omega)
  have hd : decide (s.size = 0) = false := by simp [h0]
  have hb := get_bt s
  go_enter Try.func18, Try.ntmps18
  go_wp2
  go_loop [3] (fun j => ∃ k : Nat, k ≤ s.size ∧ j = .int .i64 k ∧ allOk s k = true) (fun j => s.size - (intOf j).toNat)
  case atStart => exact ⟨0, Nat.zero_le _, rfl, rfl⟩
  case round =>
    obtain ⟨k, hk, rfl, hall⟩ := hrel
    by_cases hlt : k < s.size
    · cases hu : unrB (bt s k)
      · clear hall
        go_wp2_with (go_at_call 28; refine (alph_any _ _ (bt_nonneg _ _) (bt_le _ _)).mono ?_; rintro e w' ⟨rfl, rfl⟩)
        go_ret
        exact ⟨ret_bool (keyB_no hlt hu), rfl⟩
      · have hn : allOk s (k + 1) = true := by simp [allOk, hall, hu]
        clear hall
        go_wp2_with (go_at_call 28; refine (alph_any _ _ (bt_nonneg _ _) (bt_le _ _)).mono ?_; rintro e w' ⟨rfl, rfl⟩)
        exact vend hlt hn
    · have hk' : s.size = k := by omega
      have hu : Hid (keyB s = true) := by show keyB s = true; simp only [keyB, hd]; rw [hk', hall]; rfl
      clear hk'
      go_wp2
      go_ret
      exact ⟨ret_bool hu.out.symm, rfl⟩

set_option maxHeartbeats 2000000 in
theorem key_any (s : ByteArray) (w : World) (hs : s.size ≤ 1048576) :
    Calls Try.prog 27 #[.string s] w fun e w' => e = .returned (.bool (keyB s)) ∧ w' = w := by
  have hz : s.toList.isEmpty = decide (s.size = 0) := by
    rw [ByteArray.toList_eq, Bool.eq_iff_iff, List.isEmpty_iff, decide_eq_true_iff]
    constructor
    · intro h; show s.data.size = 0; rw [← Array.length_toList, h]; rfl
    · intro h; exact List.length_eq_zero_iff.1 (by rw [Array.length_toList]; exact h)
  cases h0 : s.toList.isEmpty
  case true =>
    have hu : Hid (keyB s = false) := by show keyB s = false; unfold keyB; rw [← hz, h0]; rfl
    clear hz
    go_enter Try.func27, Try.ntmps27
    go_wp2
    go_ret
    exact ⟨ret_bool hu.out.symm, rfl⟩
  have hd : decide (s.size = 0) = false := by rw [← hz, h0]
  clear hz
  have hb := get_bt s
  go_enter Try.func27, Try.ntmps27
  go_wp2
  go_loop [9] (fun j => ∃ k : Nat, k ≤ s.size ∧ j = .int .i64 k ∧ allOk s k = true) (fun j => s.size - (intOf j).toNat)
  case atStart => exact ⟨0, Nat.zero_le _, rfl, rfl⟩
  case round =>
    obtain ⟨k, hk, rfl, hall⟩ := hrel
    have c0 := bt_nonneg s k
    have c1 := bt_le s k
    by_cases hlt : k < s.size
    · by_cases hp : unrB (bt s k) = true
      · have hdj := unr_parts c0 c1 hp
        have hn : allOk s (k + 1) = true := by simp [allOk, hall, hp]
        clear hp hall
        go_wp2_with (first | (go_at_call 31; refine (dig_any _ _).mono ?_; rintro e w' ⟨rfl, rfl⟩) | (go_at_call 32; refine (idx_any _ _).mono ?_; rintro e w' ⟨rfl, rfl⟩))
        all_goals try simp only [Bool.not_eq_true', Bool.not_eq_false', decide_eq_false_iff_not, decide_eq_true_eq] at *
        all_goals first | exact vend hlt hn | (exfalso; rcases hdj with a | a | a | a <;> simp_all <;> omega)
      · obtain ⟨n1, n2, n3, n4⟩ := unr_not c0 c1 hp
        have hu : unrB (bt s k) = false := by simpa using hp
        clear hp hall
        go_wp2_with (first | (go_at_call 31; refine (dig_any _ _).mono ?_; rintro e w' ⟨rfl, rfl⟩) | (go_at_call 32; refine (idx_any _ _).mono ?_; rintro e w' ⟨rfl, rfl⟩))
        all_goals try simp only [Bool.not_eq_true', Bool.not_eq_false', decide_eq_false_iff_not, decide_eq_true_eq] at *
        all_goals first | (exfalso; omega) | (exfalso; simp_all; done) | (go_ret; exact ⟨ret_bool (keyB_no hlt hu), rfl⟩)
    · have hk' : s.size = k := by omega
      have hu : Hid (keyB s = true) := by show keyB s = true; simp only [keyB, hd]; rw [hk', hall]; rfl
      clear hk'
      go_wp2
      go_ret
      exact ⟨ret_bool hu.out.symm, rfl⟩
end Go.Proofs.Qxb6602922a.Key
