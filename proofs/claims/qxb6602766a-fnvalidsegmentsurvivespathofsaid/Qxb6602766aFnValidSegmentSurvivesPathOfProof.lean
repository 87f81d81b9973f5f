/-
  The law: a slash and a valid segment is its own path, alone and behind http and a host.
-/
import Derived.Test.Qxb6602766aRows
import Derived.Test.Qxb6602766aHead
import Derived.Test.Qxb6602766aValid
import Derived.Test.Qxb6602766aPath
import Derived.HandedShaped
import Derived.Shelf.Vars
import Derived.WalkKit
import Derived.ProofKit
import Derived.OpenShut
import Derived.ShutString
namespace Go.Proofs.Qxb6602766a.fnValidSegmentSurvivesPathOf
open Go.ChangeShapes Go.WideShapes Go.ChangeAt Go.RowKit
open Go.ChangeMaps (open_string shut_string)
set_option linter.unusedVariables false      -- a walk need not use every 'w<i>' (that an integer argument fits its kind)

theorem own : ownKnob Try.prog.godebug = none := by kernel_rfl

open Go.PlainAid Seg Path

theorem size17_any (s : ByteArray) (w : World) :
    Calls Try.prog 17 #[.string s] w fun e w' => e = .returned (.bool (decide (s.size ≤ 1048576))) ∧ w' = w := by
  go_enter Try.func17, Try.ntmps17
  go_wp2
  all_goals (go_ret; refine ⟨ret_bool ?_, rfl⟩; rw [Bool.eq_iff_iff]; simp; omega)

theorem allOk_at (s : ByteArray) : ∀ (n k : Nat), k < n → allOk s n = true → okAt s k = true
  | 0, _, h, _ => by omega
  | n + 1, k, h, ha => by
    simp only [allOk, Bool.and_eq_true] at ha
    by_cases e : k = n
    · subst e; exact ha.2
    · exact allOk_at s n k (by omega) ha.1

theorem good_of {s : ByteArray} (h : segB s = true) : ∀ c ∈ s.data.toList, goodB c := by
  intro c hc
  obtain ⟨k, hk, rfl⟩ := List.getElem_of_mem hc
  have hk' : k < s.size := by have := hk; rw [Array.length_toList] at this; exact this
  have ha : allOk s s.size = true := by
    simp only [segB, Bool.and_eq_true] at h; exact h.2.2.2
  have ho := allOk_at s s.size k hk' ha
  have hb : bt s k = (s.data.toList[k].toNat : Int) := by rw [← get_bt s k hk']; rfl
  generalize s.data.toList[k] = c at hb
  have hq : (0 : Int) ≤ bt s k ∧ bt s k < 128 ∧ bt s k ≠ 47 ∧ bt s k ≠ 63 ∧ bt s k ≠ 35 := by
    simp only [okAt, Bool.or_eq_true] at ho
    rcases ho with ho | ho
    · unfold pchB at ho; have := of_decide_eq_true ho; omega
    · simp [escB] at ho; omega
  rw [hb] at hq
  refine ⟨by omega, ?_, ?_, ?_⟩ <;> (rintro rfl; simp at hq)

theorem slash_mk (s : ByteArray) : (⟨(47 :: s.data.toList).toArray⟩ : ByteArray) = ⟨#[47]⟩ ++ s := by
  apply Go.WideShapes.bytes_inj
  simp [ByteArray.data_append]
theorem slash_data (s : ByteArray) : Hid (((⟨#[47]⟩ : ByteArray) ++ s).data.toList = 47 :: s.data.toList) := by
  show _ = _
  simp [ByteArray.data_append]
theorem http_data (s : ByteArray) : Hid (((⟨#[104, 116, 116, 112, 58, 47, 47, 104]⟩ : ByteArray) ++ ((⟨#[47]⟩ : ByteArray) ++ s)).data.toList = 104 :: 116 :: 116 :: 112 :: 58 :: 47 :: 47 :: 104 :: 47 :: s.data.toList) := by
  show _ = _
  simp [ByteArray.data_append]
theorem slash_size (s : ByteArray) : ((⟨#[47]⟩ : ByteArray) ++ s).size = s.size + 1 := by
  rw [size_of (slash_data s).out]; simp
theorem http_size (s : ByteArray) : ((⟨#[104, 116, 116, 112, 58, 47, 47, 104]⟩ : ByteArray) ++ ((⟨#[47]⟩ : ByteArray) ++ s)).size = s.size + 9 := by
  rw [size_of (http_data s).out]; simp

/-! ### STEP 1: THE WALK -/
set_option maxRecDepth 100000 in
theorem walk (a0 : ByteArray) (w0 : a0.size ≤ maxLen) (w : World) (hlt : 0 < w.heap.size) (m : Int) (hm : w.cell? ⟨0, 0, none⟩ = some (.int .i64 m)) :
    Calls Try.prog 7 #[.string a0] w fun e w' => e = .returned (.bool true) ∧ Below w.heap.size w w' := by
  by_cases hs : a0.size ≤ 1048576
  · have hd : decide (a0.size ≤ 1048576) = true := decide_eq_true hs
    cases hv : segB a0
    · go_enter Try.func7, Try.ntmps7
      go_wp2_with (first
        | (go_at_call 17; refine (size17_any _ _).mono ?_; rintro e w' ⟨rfl, rfl⟩)
        | (go_at_call 14; refine (Seg.zvalid_any _ _ hs).mono ?_; rintro e w' ⟨rfl, rfl⟩))
      go_ret
      exact ⟨rfl, Below.refl _ _⟩
    · have hg := good_of hv
      go_enter Try.func7, Try.ntmps7
      go_wp2_with (first
        | (go_at_call 17; refine (size17_any _ _).mono ?_; rintro e w' ⟨rfl, rfl⟩)
        | (go_at_call 14; refine (Seg.zvalid_any _ _ hs).mono ?_; rintro e w' ⟨rfl, rfl⟩))
      refine (zpath_plain _ a0.data.toList _ (slash_data a0) hg (by rw [slash_size]; omega)).mono ?_
      rintro e w1 ⟨rfl, hb⟩
      go_wp2_with fail
      refine (zpath_http _ a0.data.toList m _ (http_data a0) hg (by rw [http_size]; omega) ((hb.cell hlt).trans hm)).mono ?_
      rintro e w2 ⟨rfl, hb2⟩
      rw [slash_mk]
      go_wp2
      go_ret
      exact ⟨by simp, hb.trans (hb2.mono hb.size)⟩
  · have hd : decide (a0.size ≤ 1048576) = false := decide_eq_false hs
    go_enter Try.func7, Try.ntmps7
    go_wp2_with (go_at_call 17; refine (size17_any _ _).mono ?_; rintro e w' ⟨rfl, rfl⟩)
    go_ret
    exact ⟨rfl, Below.refl _ _⟩

theorem lt_of_cell {w : World} {v : Value} (h : w.cell? ⟨0, 0, none⟩ = some v) : 0 < w.heap.size := by
  rcases Nat.eq_zero_or_pos w.heap.size with e | e
  · have : w.heap = #[] := by simpa using e
    simp [World.cell?, this] at h
  · exact e

/-! ### THE ROW's STEP: WRITTEN OUT: LEAVE IT -/
set_option maxRecDepth 100000 in
theorem lifted (os : Os) (started : os.Started) (H : Type) (enc : TypeId × Value → H) :
    ReturnsInHanded {} Try.checked os 7 .any (Rows.fnValidSegmentSurvivesPathOfSpec.pre6 enc Try.prog Try.f7 Rows.fnValidSegmentSurvivesPathOfRow.domain false) (Rows.fnValidSegmentSurvivesPathOfSpec.post enc Try.prog Try.f7 false true false false) := by
  refine returnsInHanded_of_change_shaped (C := Try.checked) own started (by kernel_rfl) Try.func7
    (ChangeSpec.witness6 (enc := enc) (C := Try.checked) false ⟨#[], #[.string ByteArray.empty], []⟩ 8 (by kernel_rfl) (by kernel_rfl) (by kernel_rfl) (by kernel_rfl)) ?_
  intro W base args ds gs before hval0 hW hcnd _ hsh _
  obtain ⟨m, hm⟩ := cell_of_shapedOpen_int (P := Try.prog) (g := 0) (t := 3) (zero := #[.int .i64 0]) hsh (of_decide_eq_true (by kernel_rfl)) (by kernel_rfl) rfl (by kernel_rfl) (by kernel_rfl) Try.underlying3
  have hval : ∀ (j : Nat) t v, Try.f7.params[j]? = some t → args[j]? = some v → Value.okWide Try.prog W .any base t v := hval0
  have hW' := hW
  obtain ⟨p, q, hA0, hV, rfl, hfz, hnd⟩ := hW
  have hA : DataW.TrodAll enc Try.prog W 0 (fun _ => true) true Try.f7.params.toList args.toList ds p := hA0
  rw [Try.params7] at hA hval
  obtain ⟨v0, vs0, d0, ds0, p0, q0, hargs, rfl, rfl, h0, r0⟩ := trodAll_cons hA
  obtain ⟨rfl, rfl, rfl⟩ := trodAll_nil r0
  obtain rfl : args = #[v0] := by cases args; simp_all
  obtain ⟨rfl, rfl⟩ := trodVars_none hV
  obtain ⟨a0, rfl, rfl, rfl, w0⟩ := open_string Try.underlying9 (hval 0 9 v0 rfl rfl) h0
  clear hA0 hval0
  simp only [List.append_nil] at hW'
  refine (walk a0 w0 W (lt_of_cell hm) m hm).mono fun e W' ⟨he, bel⟩ => ?_
  subst he
  exact ⟨_, rfl, _, _, _, [], _, [], hW', trodAll_mk1 (shut_bool Try.underlying4 _), (trodAll_cons_mk (shut_string Try.underlying9 w0) trodAll_mk0), rfl, bel.frame _, fun h => by cases h⟩

theorem closed : joinedFacts Try.prog 7 Try.f7 Rows.fnValidSegmentSurvivesPathOfSpec Rows.fnValidSegmentSurvivesPathOfRow = true := by
  unfold joinedFacts
  rw [Head.may, Head.final, Head.make]
  kernel_rfl

theorem over : Rows.fnValidSegmentSurvivesPathOfRow.holds Try.pinned (OpenSpec.ofChange Rows.fnValidSegmentSurvivesPathOfSpec) :=
  OpenClaim.holds_of_wide 7 Try.f7 rfl rfl rfl rfl rfl rfl rfl ⟨rfl, rfl, rfl, rfl, rfl⟩ rfl rfl rfl rfl rfl (by kernel_rfl) Try.func7 closed
    (of_decide_eq_true (by kernel_rfl)) (by unfold Func.isWrapper; first | (rw [if_pos (by decide +kernel)]; kernel_rfl) | (rw [if_neg (by decide +kernel)]; exact ⟨rfl, rfl⟩))
    (fun os started H enc _ => lifted os started H enc)

/-- ████ THE STATEMENT ████ -/
theorem proved : Rows.FnValidSegmentSurvivesPathOfSaid :=
  over
end Go.Proofs.Qxb6602766a.fnValidSegmentSurvivesPathOf
