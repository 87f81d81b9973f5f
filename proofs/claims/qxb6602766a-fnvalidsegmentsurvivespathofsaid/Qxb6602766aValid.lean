/-
  The program's own test of a segment: validSegment.
-/
import Derived.Test.Qxb6602766aModel
import Derived.Test.Qxb6602766aIndexByte
namespace Go.Proofs.Qxb6602766a.Seg
open Go.RowKit Go.PlainAid

/-- Where the byte stands among the marks that a segment may hold. -/
def idxN (c : Int) : Int := Lib.indexByte [45, 46, 95, 126, 33, 36, 38, 39, 40, 41, 42, 43, 44, 59, 61, 58, 64] c.toNat.toUInt8

theorem idx_fin : ∀ n : Fin 256, (decide (0 ≤ Lib.indexByte [45, 46, 95, 126, 33, 36, 38, 39, 40, 41, 42, 43, 44, 59, 61, 58, 64] n.val.toUInt8)) =
    decide (n.val = 45 ∨ n.val = 46 ∨ n.val = 95 ∨ n.val = 126 ∨ n.val = 33 ∨ n.val = 36 ∨ n.val = 38 ∨ n.val = 39 ∨ n.val = 40 ∨ n.val = 41 ∨ n.val = 42 ∨ n.val = 43 ∨ n.val = 44 ∨ n.val = 59 ∨ n.val = 61 ∨ n.val = 58 ∨ n.val = 64) := by
  decide +kernel

theorem idx_iff {c : Int} (h0 : 0 ≤ c) (h1 : c ≤ 255) : 0 ≤ idxN c ↔ (c = 45 ∨ c = 46 ∨ c = 95 ∨ c = 126 ∨ c = 33 ∨ c = 36 ∨ c = 38 ∨ c = 39 ∨ c = 40 ∨ c = 41 ∨ c = 42 ∨ c = 43 ∨ c = 44 ∨ c = 59 ∨ c = 61 ∨ c = 58 ∨ c = 64) := by
  obtain ⟨n, rfl⟩ := Int.eq_ofNat_of_zero_le h0
  have := idx_fin ⟨n, by omega⟩
  rw [Bool.eq_iff_iff, decide_eq_true_iff, decide_eq_true_iff] at this
  unfold idxN
  rw [Int.toNat_natCast]
  refine this.trans ?_
  simp only
  omega

theorem idx_any (c : Int) (w : World) :
    Calls Try.prog 27 #[.string ⟨#[45, 46, 95, 126, 33, 36, 38, 39, 40, 41, 42, 43, 44, 59, 61, 58, 64]⟩, .int .u8 c] w fun e w' => e = .returned (.int .i64 (idxN c)) ∧ w' = w :=
  Try.strings_IndexByte _ _ _

theorem vend {s : ByteArray} {k : Nat} (hlt : k < s.size) (h : allOk s (k + 1) = true) :
    (∃ k1 : Nat, k1 ≤ s.size ∧ Value.int IntKind.i64 ((k : Int) + 1) = Value.int IntKind.i64 k1 ∧ allOk s k1 = true)
      ∧ s.size - (intOf (Value.int IntKind.i64 ((k : Int) + 1))).toNat < s.size - (intOf (Value.int IntKind.i64 k)).toNat :=
  ⟨⟨k + 1, by omega, by go_num, h⟩, by simp [intOf]; omega⟩

theorem hex_pch {c : Int} (h : hexB c = true) : pchB c = true := by
  simp [hexB] at h; simp [pchB]; omega

theorem pch_parts {c : Int} (h0 : 0 ≤ c) (h1 : c ≤ 255) (h : pchB c = true) : (97 ≤ c ∧ c ≤ 122) ∨ (65 ≤ c ∧ c ≤ 90) ∨ (48 ≤ c ∧ c ≤ 57) ∨ 0 ≤ idxN c := by
  have := idx_iff h0 h1
  simp [pchB] at h; omega
theorem pch_not {c : Int} (h0 : 0 ≤ c) (h1 : c ≤ 255) (h : ¬ pchB c = true) : ¬ (97 ≤ c ∧ c ≤ 122) ∧ ¬ (65 ≤ c ∧ c ≤ 90) ∧ ¬ (48 ≤ c ∧ c ≤ 57) ∧ idxN c < 0 := by
  have := idx_iff h0 h1
  simp [pchB] at h; omega
theorem allOk_mono (s : ByteArray) : ∀ (n k : Nat), k < n → okAt s k = false → allOk s n = false
  | 0, _, h, _ => by omega
  | n + 1, k, h, hk => by
    by_cases e : k = n
    · subst e; simp [allOk, hk]
    · simp [allOk, allOk_mono s n k (by omega) hk]
theorem segB_no {s : ByteArray} {k : Nat} (h : k < s.size) (hk : okAt s k = false) : false = segB s := by
  simp [segB, allOk_mono s _ k h hk]
theorem esc3 {s : ByteArray} {k : Nat} (h : allOk s k = true) (he : escB s k = true) : allOk s (k + 3) = true := by
  have he' := he
  simp only [escB, Bool.and_eq_true] at he'
  obtain ⟨_, _, h1, h2⟩ := he'
  show (((allOk s k && okAt s k) && okAt s (k + 1)) && okAt s (k + 2)) = true
  simp [h, okAt, he, hex_pch h1, hex_pch h2]
theorem vend3 {s : ByteArray} {k : Nat} (hlt : k + 2 < s.size) (h : allOk s (k + 3) = true) :
    (∃ k1 : Nat, k1 ≤ s.size ∧ Value.int IntKind.i64 ((k : Int) + 2 + 1) = Value.int IntKind.i64 k1 ∧ allOk s k1 = true)
      ∧ s.size - (intOf (Value.int IntKind.i64 ((k : Int) + 2 + 1))).toNat < s.size - (intOf (Value.int IntKind.i64 k)).toNat :=
  ⟨⟨k + 3, by omega, by go_num, h⟩, by simp [intOf]; omega⟩

set_option maxHeartbeats 2000000 in
theorem valid_any (s : ByteArray) (w : World) (hs : s.size ≤ 1048576) :
    Calls Try.prog 20 #[.string s] w fun e w' => e = .returned (.bool (segB s)) ∧ w' = w := by
  cases h0 : s.toList.isEmpty
  case true =>
    go_enter Try.func20, Try.ntmps20
    go_wp2
    go_ret
    exact ⟨ret_bool (by simp [segB, h0]), rfl⟩
  cases h1 : s.toList == [46]
  case true =>
    go_enter Try.func20, Try.ntmps20
    go_wp2
    go_ret
    exact ⟨ret_bool (by simp [segB, h1]), rfl⟩
  cases h2 : s.toList == [46, 46]
  case true =>
    go_enter Try.func20, Try.ntmps20
    go_wp2
    go_ret
    exact ⟨ret_bool (by simp [segB, h2]), rfl⟩
  have hb := get_bt s
  go_enter Try.func20, Try.ntmps20
  go_wp2
  go_loop [3] (fun j => ∃ k : Nat, k ≤ s.size ∧ j = .int .i64 k ∧ allOk s k = true) (fun j => s.size - (intOf j).toNat)
  case atStart => exact ⟨0, Nat.zero_le _, rfl, rfl⟩
  case round =>
    obtain ⟨k, hk, rfl, hall⟩ := hrel
    have c0 := bt_nonneg s k
    have c1 := bt_le s k
    by_cases hlt : k < s.size
    · by_cases hp : pchB (bt s k) = true
      · have hd := pch_parts c0 c1 hp
        have hn : allOk s (k + 1) = true := by simp [allOk, hall, okAt, hp]
        clear hp hall
        go_wp2_with (go_at_call 27; refine (idx_any _ _).mono ?_; rintro e w' ⟨rfl, rfl⟩)
        all_goals first | exact vend hlt hn | (exfalso; omega)
      · obtain ⟨n1, n2, n3, n4⟩ := pch_not c0 c1 hp
        have hp' : pchB (bt s k) = false := by simpa using hp
        clear hp
        by_cases h37 : bt s k = 37
        · have h37' : (bt s k == 37) = true := by simp [h37]
          have g1 : 37 ≤ bt s k := by omega
          have g2 : bt s k ≤ 37 := by omega
          clear h37
          by_cases hl2 : k + 2 < s.size
          · cases hx1 : hexB (bt s (k + 1))
            all_goals cases hx2 : hexB (bt s (k + 2))
            case true.true =>
              have he : escB s k = true := by simp_all [escB]
              have hn := esc3 hall he
              clear hall he
              go_wp2_with (first | (go_at_call 27; refine (idx_any _ _).mono ?_; rintro e w' ⟨rfl, rfl⟩) | (go_at_call 28; refine (isHex_any _ _).mono ?_; rintro e w' ⟨rfl, rfl⟩))
              exact vend3 hl2 hn
            all_goals
              have he : okAt s k = false := by simp_all [okAt, escB]
              clear hall
              go_wp2_with (first | (go_at_call 27; refine (idx_any _ _).mono ?_; rintro e w' ⟨rfl, rfl⟩) | (go_at_call 28; refine (isHex_any _ _).mono ?_; rintro e w' ⟨rfl, rfl⟩))
              go_ret
              exact ⟨ret_bool (segB_no hlt he), rfl⟩
          · have hd : decide (k + 2 < s.size) = false := decide_eq_false hl2
            have he : okAt s k = false := by simp [okAt, escB, hp', hd]
            clear hall hd
            go_wp2_with (first | (go_at_call 27; refine (idx_any _ _).mono ?_; rintro e w' ⟨rfl, rfl⟩) | (go_at_call 28; refine (isHex_any _ _).mono ?_; rintro e w' ⟨rfl, rfl⟩))
            go_ret
            exact ⟨ret_bool (segB_no hlt he), rfl⟩
        · have h37' : (bt s k == 37) = false := by simp [h37]
          have he : okAt s k = false := by simp [okAt, escB, hp', h37]
          clear hall h37
          go_wp2_with (first | (go_at_call 27; refine (idx_any _ _).mono ?_; rintro e w' ⟨rfl, rfl⟩) | (go_at_call 28; refine (isHex_any _ _).mono ?_; rintro e w' ⟨rfl, rfl⟩))
          all_goals first | (exfalso; omega) | (go_ret; exact ⟨ret_bool (segB_no hlt he), rfl⟩)
    · have hk' : s.size = k := by omega
      go_wp2
      go_ret
      exact ⟨ret_bool (by simp [segB, h0, h1, h2, hk', hall]), rfl⟩

theorem zvalid_any (s : ByteArray) (w : World) (hs : s.size ≤ 1048576) :
    Calls Try.prog 14 #[.string s] w fun e w' => e = .returned (.bool (segB s)) ∧ w' = w := by
  go_enter Try.func14, Try.ntmps14
  go_wp2_with (go_at_call 20; refine (valid_any _ _ hs).mono ?_; rintro e w' ⟨rfl, rfl⟩)
  go_ret
  exact ⟨rfl, rfl⟩
end Go.Proofs.Qxb6602766a.Seg
