/-
  The law: the cover by a tree of one subject orders the subjects.
-/
import Derived.Test.Qxb6602990aRows
import Derived.Test.Qxb6602990aOne
import Derived.Test.Qxb6602990aValid
import Derived.Test.Qxb6602990aHead
import Derived.HandedShaped
import Derived.Shelf.Vars
import Derived.WalkKit
import Derived.ProofKit
import Derived.OpenShut
import Derived.ShutString
namespace Go.Proofs.Qxb6602990a.fnCoversSingleEntryIsPartialOrder
open Go.ChangeShapes Go.WideShapes Go.ChangeAt Go.RowKit
open Go.ChangeMaps (open_string shut_string)
set_option linter.unusedVariables false      -- a walk need not use every 'w<i>' (that an integer argument fits its kind)

theorem own : ownKnob Try.prog.godebug = none := by kernel_rfl

open Pl

theorem size_any (a b c : ByteArray) (w : World) (ha : a.size ≤ maxLen) (hb : b.size ≤ maxLen) (hc : c.size ≤ maxLen) :
    Calls Try.prog 31 #[.string a, .string b, .string c] w fun e w' => e = .returned (.bool (decide (a.size + b.size + c.size ≤ 1048576))) ∧ w' = w := by
  unfold maxLen at ha hb hc
  go_enter Try.func31, Try.ntmps31
  go_wp2
  all_goals (go_ret; refine ⟨ret_bool ?_, rfl⟩; rw [Bool.eq_iff_iff]; simp; omega)

theorem as_S {s : ByteArray} {l : Bs} (h : s.data.toList = l) : s = ⟨l.toArray⟩ := by
  apply Go.WideShapes.bytes_inj; rw [h]
theorem S_size (l : Bs) : (⟨l.toArray⟩ : ByteArray).size = l.length := by simp [ByteArray.size]

/-! ### STEP 1: THE WALK -/
set_option maxHeartbeats 1000000 in
theorem walk (a0 : ByteArray) (a1 : ByteArray) (a2 : ByteArray) (w0 : a0.size ≤ maxLen) (w1 : a1.size ≤ maxLen) (w2 : a2.size ≤ maxLen) (w : World) (m : Int) (hm : w.cell? ⟨0, 0, none⟩ = some (.int .i64 m)) :
    Calls Try.prog 9 #[.string a0, .string a1, .string a2] w fun e w' => e = .returned (.bool true) ∧ Below w.heap.size w w' := by
  have hlt : 0 < w.heap.size := block_lt_of_cell hm
  by_cases hs : a0.size + a1.size + a2.size ≤ 1048576
  · have hd : decide (a0.size + a1.size + a2.size ≤ 1048576) = true := decide_eq_true hs
    have s0 : a0.size ≤ 1048576 := by omega
    have s1 : a1.size ≤ 1048576 := by omega
    have s2 : a2.size ≤ 1048576 := by omega
    by_cases hv : vf [] a0.data.toList = true ∧ vf [] a1.data.toList = true ∧ vf [] a2.data.toList = true
    · obtain ⟨v0, v1, v2⟩ := hv
      obtain ⟨xs, xn, xg, xe⟩ := vf_nil v0
      obtain ⟨ys, yn, yg, ye⟩ := vf_nil v1
      obtain ⟨zs, zn, zg, ze⟩ := vf_nil v2
      have hx := as_S xe
      have hy := as_S ye
      have hz := as_S ze
      subst hx
      subst hy
      subst hz
      rw [S_size] at s0 s1 s2
      clear xe ye ze
      have hrefl : Hid (pc xs xs = true) := pc_refl xs
      have hanti : Hid (pc xs ys = true → pc ys xs = true → xs = ys) := pc_anti xs ys xg yg
      have htrans : Hid (pc xs ys = true → pc ys zs = true → pc xs zs = true) := pc_trans xs ys zs
      have xg' := hidC xg
      have yg' := hidC yg
      have zg' := hidC zg
      clear xg yg zg
      rw [S_size, S_size, S_size] at hd hs
      have hm' := hidC hm
      clear hm
      go_enter Try.func9, Try.ntmps9
      go_wp2_with (first
        | (go_at_call 31; refine (size_any _ _ _ _ w0 w1 w2).mono ?_; rintro e w' ⟨rfl, rfl⟩)
        | (go_at_call 28; refine (valid_any _ _ (by rw [S_size]; assumption)).mono ?_; rintro e w' ⟨rfl, rfl⟩))
      rename World => w
      refine (one_any xs xs _ m xg'.out xg'.out xn (by omega) (by omega) hm'.out).mono ?_
      rintro e w3 ⟨rfl, b3⟩
      rw [hrefl.out]
      have m3 := (b3.cell (p := ⟨0, 0, none⟩) hlt).trans hm'.out
      have B3 := hidC b3
      have M3 := hidC m3
      clear b3 m3
      go_wp2_with fail
      refine (one_any xs ys _ m xg'.out yg'.out xn (by omega) (by omega) M3.out).mono ?_
      rintro e w4 ⟨rfl, b4⟩
      generalize pc xs ys = ab at hanti htrans ⊢
      have M4 := hidC ((b4.cell (p := ⟨0, 0, none⟩) (Nat.lt_of_lt_of_le hlt B3.out.size)).trans M3.out)
      have B4 := hidC (B3.out.trans (b4.mono B3.out.size))
      clear b4 B3 M3
      go_wp2_with fail
      refine (one_any ys xs _ m yg'.out xg'.out yn (by omega) (by omega) M4.out).mono ?_
      rintro e w5 ⟨rfl, b5⟩
      generalize pc ys xs = ba at hanti ⊢
      have M5 := hidC ((b5.cell (p := ⟨0, 0, none⟩) (Nat.lt_of_lt_of_le hlt B4.out.size)).trans M4.out)
      have B5 := hidC (B4.out.trans (b5.mono B4.out.size))
      clear b5 B4 M4
      go_wp2_with fail
      refine (one_any ys zs _ m yg'.out zg'.out yn (by omega) (by omega) M5.out).mono ?_
      rintro e w6 ⟨rfl, b6⟩
      generalize pc ys zs = bc at htrans ⊢
      have M6 := hidC ((b6.cell (p := ⟨0, 0, none⟩) (Nat.lt_of_lt_of_le hlt B5.out.size)).trans M5.out)
      have B6 := hidC (B5.out.trans (b6.mono B5.out.size))
      clear b6 B5 M5
      go_wp2_with fail
      refine (one_any xs zs _ m xg'.out zg'.out xn (by omega) (by omega) M6.out).mono ?_
      rintro e w7 ⟨rfl, b7⟩
      generalize pc xs zs = ac at htrans ⊢
      have B7 := hidC (B6.out.trans (b7.mono B6.out.size))
      clear b7 B6 M6
      have hxy : Hid (ab = true → ba = true → joinD xs = joinD ys) := fun a b => by rw [hanti.out a b]
      have hac : Hid (ab = true → bc = true → ac = true) := htrans.out
      clear hanti htrans
      go_wp2_with fail
      all_goals first
        | (go_ret; exact ⟨rfl, B7.out⟩)
        | (exfalso; rename_i h; rw [hac.out ‹ab = true› ‹bc = true›] at h; cases h)
        | (exfalso; rename_i h; rw [hxy.out ‹ab = true› ‹ba = true›] at h; simp at h; done)
    · cases v0 : vf [] a0.data.toList
      · clear hv hm
        go_enter Try.func9, Try.ntmps9
        go_wp2_with (first
          | (go_at_call 31; refine (size_any _ _ _ _ w0 w1 w2).mono ?_; rintro e w' ⟨rfl, rfl⟩)
          | (go_at_call 28; refine (valid_any _ _ (by assumption)).mono ?_; rintro e w' ⟨rfl, rfl⟩))
        all_goals (go_ret; exact ⟨rfl, Below.refl _ _⟩)
      · cases v1 : vf [] a1.data.toList
        · clear hv hm
          go_enter Try.func9, Try.ntmps9
          go_wp2_with (first
            | (go_at_call 31; refine (size_any _ _ _ _ w0 w1 w2).mono ?_; rintro e w' ⟨rfl, rfl⟩)
            | (go_at_call 28; refine (valid_any _ _ (by assumption)).mono ?_; rintro e w' ⟨rfl, rfl⟩))
          all_goals (go_ret; exact ⟨rfl, Below.refl _ _⟩)
        · have v2 : vf [] a2.data.toList = false := by
            cases h : vf [] a2.data.toList
            · rfl
            · exact (hv ⟨v0, v1, h⟩).elim
          clear hv hm
          go_enter Try.func9, Try.ntmps9
          go_wp2_with (first
            | (go_at_call 31; refine (size_any _ _ _ _ w0 w1 w2).mono ?_; rintro e w' ⟨rfl, rfl⟩)
            | (go_at_call 28; refine (valid_any _ _ (by assumption)).mono ?_; rintro e w' ⟨rfl, rfl⟩))
          all_goals (go_ret; exact ⟨rfl, Below.refl _ _⟩)
  · have hd : decide (a0.size + a1.size + a2.size ≤ 1048576) = false := decide_eq_false hs
    go_enter Try.func9, Try.ntmps9
    go_wp2_with (go_at_call 31; refine (size_any _ _ _ _ w0 w1 w2).mono ?_; rintro e w' ⟨rfl, rfl⟩)
    go_ret
    exact ⟨rfl, Below.refl _ _⟩

/-! ### THE ROW's STEP: WRITTEN OUT: LEAVE IT -/
set_option maxRecDepth 100000 in
theorem lifted (os : Os) (started : os.Started) (H : Type) (enc : TypeId × Value → H) :
    ReturnsInHanded {} Try.checked os 9 .any (Rows.fnCoversSingleEntryIsPartialOrderSpec.pre6 enc Try.prog Try.f9 Rows.fnCoversSingleEntryIsPartialOrderRow.domain false) (Rows.fnCoversSingleEntryIsPartialOrderSpec.post enc Try.prog Try.f9 false true false false) := by
  refine returnsInHanded_of_change_shaped (C := Try.checked) own started (by kernel_rfl) Try.func9
    (ChangeSpec.witness6 (enc := enc) (C := Try.checked) false ⟨#[], #[.string ByteArray.empty, .string ByteArray.empty, .string ByteArray.empty], []⟩ 8 (by kernel_rfl) (by kernel_rfl) (by kernel_rfl) (by kernel_rfl)) ?_
  intro W base args ds gs before hval0 hW hcnd _ hsh _
  obtain ⟨m, hm⟩ := cell_of_shapedOpen_int (P := Try.prog) (g := 0) (t := 3) (zero := #[.int .i64 0]) hsh (of_decide_eq_true (by kernel_rfl)) (by kernel_rfl) rfl (by kernel_rfl) (by kernel_rfl) Try.underlying3
  have hval : ∀ (j : Nat) t v, Try.f9.params[j]? = some t → args[j]? = some v → Value.okWide Try.prog W .any base t v := hval0
  have hW' := hW
  obtain ⟨p, q, hA0, hV, rfl, hfz, hnd⟩ := hW
  have hA : DataW.TrodAll enc Try.prog W 0 (fun _ => true) true Try.f9.params.toList args.toList ds p := hA0
  rw [Try.params9] at hA hval
  obtain ⟨v0, vs0, d0, ds0, p0, q0, hargs, rfl, rfl, h0, r0⟩ := trodAll_cons hA
  obtain ⟨v1, vs1, d1, ds1, p1, q1, rfl, rfl, rfl, h1, r1⟩ := trodAll_cons r0
  obtain ⟨v2, vs2, d2, ds2, p2, q2, rfl, rfl, rfl, h2, r2⟩ := trodAll_cons r1
  obtain ⟨rfl, rfl, rfl⟩ := trodAll_nil r2
  obtain rfl : args = #[v0, v1, v2] := by cases args; simp_all
  obtain ⟨rfl, rfl⟩ := trodVars_none hV
  obtain ⟨a0, rfl, rfl, rfl, w0⟩ := open_string Try.underlying9 (hval 0 9 v0 rfl rfl) h0
  obtain ⟨a1, rfl, rfl, rfl, w1⟩ := open_string Try.underlying9 (hval 1 9 v1 rfl rfl) h1
  obtain ⟨a2, rfl, rfl, rfl, w2⟩ := open_string Try.underlying9 (hval 2 9 v2 rfl rfl) h2
  clear hA0 hval0
  simp only [List.append_nil] at hW'
  refine (walk a0 a1 a2 w0 w1 w2 W m hm).mono fun e W' ⟨he, bel⟩ => ?_
  subst he
  exact ⟨_, rfl, _, _, _, [], _, [], hW', trodAll_mk1 (shut_bool Try.underlying4 _), (trodAll_cons_mk (shut_string Try.underlying9 w0) (trodAll_cons_mk (shut_string Try.underlying9 w1) (trodAll_cons_mk (shut_string Try.underlying9 w2) trodAll_mk0))), rfl, bel.frame _, fun h => by cases h⟩

theorem closed : joinedFacts Try.prog 9 Try.f9 Rows.fnCoversSingleEntryIsPartialOrderSpec Rows.fnCoversSingleEntryIsPartialOrderRow = true := by
  unfold joinedFacts
  rw [Head.may, Head.final, Head.make]
  kernel_rfl

theorem over : Rows.fnCoversSingleEntryIsPartialOrderRow.holds Try.pinned (OpenSpec.ofChange Rows.fnCoversSingleEntryIsPartialOrderSpec) :=
  OpenClaim.holds_of_wide 9 Try.f9 rfl rfl rfl rfl rfl rfl rfl ⟨rfl, rfl, rfl, rfl, rfl⟩ rfl rfl rfl rfl rfl (by kernel_rfl) Try.func9 closed
    (of_decide_eq_true (by kernel_rfl)) (by unfold Func.isWrapper; first | (rw [if_pos (by decide +kernel)]; kernel_rfl) | (rw [if_neg (by decide +kernel)]; exact ⟨rfl, rfl⟩))
    (fun os started H enc _ => lifted os started H enc)

/-- ████ THE STATEMENT ████ -/
theorem proved : Rows.FnCoversSingleEntryIsPartialOrderSaid :=
  over
end Go.Proofs.Qxb6602990a.fnCoversSingleEntryIsPartialOrder
