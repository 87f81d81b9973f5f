/-
  The law's own model of a segment: zzB1SegmentModel.
-/
import Derived.Test.Qxb6602766aHex
namespace Go.Proofs.Qxb6602766a.Seg
open Go.RowKit Go.PlainAid

def escB (s : ByteArray) (k : Nat) : Bool := decide (bt s k = 37) && (decide (k + 2 < s.size) && (hexB (bt s (k + 1)) && hexB (bt s (k + 2))))
def okAt (s : ByteArray) (k : Nat) : Bool := pchB (bt s k) || escB s k
def allOk (s : ByteArray) : Nat → Bool
  | 0 => true
  | k + 1 => allOk s k && okAt s k
def segB (s : ByteArray) : Bool := !s.toList.isEmpty && (!(s.toList == [46]) && (!(s.toList == [46, 46]) && allOk s s.size))

theorem rend {s : ByteArray} {k : Nat} {b : Bool} (hlt : k < s.size) (h : b = allOk s (k + 1)) :
    (∃ k1 : Nat, k1 ≤ s.size ∧ Value.int IntKind.i64 ((k : Int) + 1) = Value.int IntKind.i64 k1 ∧ Value.bool b = Value.bool (allOk s k1))
      ∧ s.size - (intOf (Value.int IntKind.i64 ((k : Int) + 1))).toNat < s.size - (intOf (Value.int IntKind.i64 k)).toNat :=
  ⟨⟨k + 1, by omega, by go_num, by rw [h]⟩, by simp [intOf]; omega⟩

set_option maxHeartbeats 400000 in
theorem model_any (s : ByteArray) (w : World) (hs : s.size ≤ 1048576) :
    Calls Try.prog 15 #[.string s] w fun e w' => e = .returned (.bool (segB s)) ∧ w' = w := by
  cases h0 : s.toList.isEmpty
  case true =>
    go_enter Try.func15, Try.ntmps15
    go_wp2
    go_ret
    exact ⟨ret_bool (by simp [segB, h0]), rfl⟩
  cases h1 : s.toList == [46]
  case true =>
    go_enter Try.func15, Try.ntmps15
    go_wp2
    go_ret
    exact ⟨ret_bool (by simp [segB, h1]), rfl⟩
  cases h2 : s.toList == [46, 46]
  case true =>
    go_enter Try.func15, Try.ntmps15
    go_wp2
    go_ret
    exact ⟨ret_bool (by simp [segB, h2]), rfl⟩
  have hb := get_bt s
  go_enter Try.func15, Try.ntmps15
  go_wp2
  go_loop [3, 4] (fun ok j => ∃ k : Nat, k ≤ s.size ∧ j = .int .i64 k ∧ ok = .bool (allOk s k)) (fun _ j => s.size - (intOf j).toNat)
  case atStart => exact ⟨0, Nat.zero_le _, rfl, rfl⟩
  case round =>
    obtain ⟨k, hk, rfl, rfl⟩ := hrel
    by_cases hlt : k < s.size
    · by_cases h37 : bt s k = 37
      · have h37' : (bt s k == 37) = true := by simp [h37]
        have hp : pchB (bt s k) = false := by rw [h37]; decide
        clear h37
        by_cases hl2 : k + 2 < s.size
        · cases hx1 : hexB (bt s (k + 1))
          all_goals cases hx2 : hexB (bt s (k + 2))
          all_goals
            go_wp2_with (first | (go_at_call 22; refine (pchar_any _ _).mono ?_; rintro e w' ⟨rfl, rfl⟩) | (go_at_call 21; refine (hex_any _ _).mono ?_; rintro e w' ⟨rfl, rfl⟩))
            exact rend hlt (by simp_all [allOk, okAt, escB])
        · go_wp2_with (first | (go_at_call 22; refine (pchar_any _ _).mono ?_; rintro e w' ⟨rfl, rfl⟩) | (go_at_call 21; refine (hex_any _ _).mono ?_; rintro e w' ⟨rfl, rfl⟩))
          have hd : decide (k + 2 < s.size) = false := decide_eq_false hl2
          exact rend hlt (by simp [allOk, okAt, escB, hp, hd])
      · have h37' : (bt s k == 37) = false := by simp [h37]
        go_wp2_with (go_at_call 22; refine (pchar_any _ _).mono ?_; rintro e w' ⟨rfl, rfl⟩)
        all_goals exact rend hlt (by simp_all [allOk, okAt, escB])
    · have hk' : s.size = k := by omega
      go_wp2
      go_ret
      exact ⟨ret_bool (by simp [segB, h0, h1, h2, hk']), rfl⟩
end Go.Proofs.Qxb6602766a.Seg
