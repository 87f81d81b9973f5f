/-
  The law: the tree of a list covers a subject just where one of the list does.
-/
import Derived.Test.Qxb6602990aRows
import Derived.Test.Qxb6602990aTreeOf
import Derived.Test.Qxb6602990aHead
import Derived.WalkKit
import Derived.ProofKit
import Derived.OpenShut
import Derived.ShutString
import Derived.HandedShaped
import Derived.Shelf.Vars
import Derived.Deep.Strs
namespace Go.Proofs.Qxb6602990a.fnCoversMatchesPairwiseModel
open Go.ChangeShapes Go.WideShapes Go.ChangeAt Go.RowKit
open Go.ChangeMaps (open_string shut_string)
open Pl
set_option linter.unusedVariables false

theorem own : ownKnob Try.prog.godebug = none := by kernel_rfl

theorem as_S {s : ByteArray} {l : Bs} (h : s.data.toList = l) : s = ⟨l.toArray⟩ := by
  apply Go.WideShapes.bytes_inj; rw [h]
theorem S_size (l : Bs) : (⟨l.toArray⟩ : ByteArray).size = l.length := by simp [ByteArray.size]

/-- The loop's answer so far. -/
def wantTo (ys : List Bs) (xss : List (List Bs)) (self : Bool) (k : Nat) : Bool := anyC ys (xss.take k) self

theorem want_step {ys : List Bs} {xss : List (List Bs)} {self : Bool} {k : Nat} {x : List Bs} (h : xss[k]? = some x) :
    wantTo ys xss self (k + 1) = (wantTo ys xss self k || (!(self && (x == ys)) && pc x ys)) := by
  unfold wantTo anyC
  rw [take_succ_at h, List.any_append]
  simp

set_option maxHeartbeats 1000000 in
theorem walk_on (p : Option Addr) (n c : Nat) (ls : List Bs) (a1 : ByteArray) (sb : Bool) (w : World) (m : Int) (h : SRow w p n c ls) (hn : n ≤ 65536) (h1 : a1.size ≤ 1048576) (hm : w.cell? ⟨0, 0, none⟩ = some (.int .i64 m)) :
    Calls Try.prog 8 #[.slice p n c, .string a1, .bool sb] w fun e w' => e = .returned (.bool true) ∧ Below w.heap.size w w' := by
  have hlt0 : 0 < w.heap.size := block_lt_of_cell hm
  have HG := hidC (guard27_any p n c ls a1 sb w h (by omega) (by omega))
  have HB := hidC (bytes_any p n c ls w h (by omega))
  have HV := hidC (valid_any a1 w h1)
  have HS := hidC (fun hall => subjects_any p n c ls w h (by omega) hall)
  have HC := hidC (copy_all p n c ls w h (by omega))
  have H := hidC h
  have HM := hidC hm
  have Hlen := hidC h.len
  clear h hm
  go_enter Try.func8, Try.ntmps8
  go_wp2_with fail
  refine HG.out.mono ?_
  rintro e w' ⟨⟨b, rfl⟩, rfl⟩
  cases b
  · go_wp2_with fail
    go_ret
    exact ⟨rfl, Below.refl _ _⟩
  go_wp2_with fail
  refine HB.out.mono ?_
  rintro e w' ⟨r, rfl, rfl, hr, hall⟩
  by_cases hrl : 1048576 < r + a1.size
  · clear hall
    go_wp2_with fail
    go_ret
    exact ⟨rfl, Below.refl _ _⟩
  have HA := hidC (hall (by omega))
  clear hall
  go_wp2_with fail
  refine HV.out.mono ?_
  rintro e w' ⟨rfl, rfl⟩
  cases hv : vf [] a1.data.toList
  · go_wp2_with fail
    go_ret
    exact ⟨rfl, Below.refl _ _⟩
  go_wp2_with fail
  refine (HS.out HA.out).mono ?_
  rintro e w' ⟨rfl, rfl⟩
  cases hvs : ls.all (vf [])
  · go_wp2_with fail
    go_ret
    exact ⟨rfl, Below.refl _ _⟩
  obtain ⟨ys, yn, yg, ye⟩ := vf_nil hv
  obtain ⟨xss, hX⟩ := subj_of hvs
  have HX := hidC hX
  have HY := hidC ye
  have Hyg := hidC yg
  clear hvs hv hX ye yg
  go_wp2_with fail
  refine HC.out.mono ?_
  rintro e w1 ⟨p', rfl, hcp⟩
  have HR := hidC hcp.row
  have B1 := hidC hcp.2.2
  clear hcp
  have M1 : Hid (w1.cell? ⟨0, 0, none⟩ = some (.int .i64 m)) := (B1.out.cell (p := ⟨0, 0, none⟩) hlt0).trans HM.out
  go_wp2_with fail
  refine (treeOf_any p' n n ls xss w1 m HR.out (by omega) HA.out HX.out M1.out).mono ?_
  rintro e w2 ⟨rfl, hT⟩
  obtain ⟨T, hF, hTA, hTR, hB2, hO⟩ := hT
  have B2 := hidC hB2
  have hM2 : w2.cell? ⟨0, 0, none⟩ = some (.int .i64 m) := (hB2.cell (p := ⟨0, 0, none⟩) (Nat.lt_of_lt_of_le hlt0 B1.out.size)).trans M1.out
  have ha1 : a1 = ⟨(joinD ys).toArray⟩ := as_S HY.out
  have HCv := hidC (zcovers_any T [] xss hTR m ys Hyg.out (by rw [← HY.out, size_list]; omega) w1.heap.size sb w2 hF hTA hM2)
  have hS : S (joinD ys) = .string a1 := by rw [ha1]
  rw [hS] at HCv
  clear hS
  have Ha1 := hidC ha1
  have HR2 := hidC (HR.out.kept hB2)
  clear ha1 hF hTA hTR hB2 hO hM2
  go_wp2_with fail
  refine HCv.out.mono ?_
  rintro e w3 ⟨rfl, nd, rfl⟩
  have B3 : Hid (Below w'.heap.size w' (w2.drewN nd)) := below_drewN (B1.out.trans (B2.out.mono B1.out.size)) nd
  have HR3 : Hid (SRow (w2.drewN nd) p' n n ls) := HR2.out
  generalize w2.drewN nd = w4 at B3 HR3 ⊢
  have Hcov : Hid (covL ys xss sb = wantTo ys xss sb n) := by
    show _ = _
    rw [covL_any ys xss sb Hyg.out (fun x hx => (HX.out.2 x hx).1)]
    unfold wantTo
    rw [List.take_of_length_le (by rw [HX.out.len, Hlen.out]; exact Nat.le_refl _)]
  generalize covL ys xss sb = got at Hcov ⊢
  go_wp2_with fail
  go_loop [9, 10] (fun wv i => ∃ k : Nat, i = .int .i64 k ∧ k ≤ n ∧ wv = .bool (wantTo ys xss sb k)) (fun _ i => n - (intOf i).toNat)
  case atStart => exact ⟨0, rfl, Nat.zero_le _, rfl⟩
  case round =>
    obtain ⟨k, rfl, hk, rfl⟩ := hrel
    by_cases hlt : k < n
    · obtain ⟨ad, rfl, hc⟩ := HR3.out.at hlt
      obtain ⟨x, hxk, hxs, hxg, hxn⟩ := HX.out.at (k := k) (by have := Hlen.out; omega)
      have hxl : (joinD x).length ≤ 1048576 := by rw [← hxs]; exact HA.out _ (getD_mem (by have := Hlen.out; omega))
      have hst := hidC (want_step (ys := ys) (self := sb) hxk)
      rw [hxs] at hc
      have hcv := hidC (fun W => cov_any ⟨(joinD x).toArray⟩ a1 x ys W (by rw [S_size]; exact hxl) h1 hxg Hyg.out hxn yn (by simp) HY.out)
      have heq : ((joinD x) == a1.toList) = (x == ys) := by
        rw [ByteArray.toList_eq, HY.out, Bool.eq_iff_iff, beq_iff_eq, beq_iff_eq]
        exact ⟨joinD_inj x ys hxg Hyg.out, fun e => by rw [e]⟩
      clear hxs hxk hxg hxn
      cases sb
      · clear heq
        cases hpc : pc x ys
        all_goals
          go_wp2_with fail
          refine (hcv.out _).mono ?_
          rintro e w5 ⟨rfl, rfl⟩
          go_wp2_with fail
          exact ⟨⟨k + 1, by go_num, by omega, by rw [hst.out, hpc]; simp⟩, by simp [intOf]; omega⟩
      · cases hxy : x == ys
        · rw [hxy] at heq
          cases hpc : pc x ys
          all_goals
            go_wp2_with fail
            refine (hcv.out _).mono ?_
            rintro e w5 ⟨rfl, rfl⟩
            go_wp2_with fail
            exact ⟨⟨k + 1, by go_num, by omega, by rw [hst.out, hpc, hxy]; simp⟩, by simp [intOf]; omega⟩
        · rw [hxy] at heq
          go_wp2_with fail
          exact ⟨⟨k + 1, by go_num, by omega, by rw [hst.out, hxy]; simp⟩, by simp [intOf]; omega⟩
    · have hkn : k = n := by omega
      have Hk : Hid (got = wantTo ys xss sb k) := by rw [hkn]; exact Hcov
      clear hkn
      go_wp2_with fail
      go_ret
      exact ⟨ret_bool (by rw [Hk.out]; simp), B3.out⟩

theorem walk (p : Option Addr) (n c : Nat) (ls : List Bs) (a1 : ByteArray) (sb : Bool) (w : World) (m : Int) (h : SRow w p n c ls) (hn : n ≤ maxLen) (h1 : a1.size ≤ maxLen) (hm : w.cell? ⟨0, 0, none⟩ = some (.int .i64 m)) :
    Calls Try.prog 8 #[.slice p n c, .string a1, .bool sb] w fun e w' => e = .returned (.bool true) ∧ Below w.heap.size w w' := by
  unfold maxLen at hn h1
  by_cases hn2 : n ≤ 65536
  · by_cases h12 : a1.size ≤ 1048576
    · exact walk_on p n c ls a1 sb w m h hn2 h12 hm
    · have HG := hidC (guard27_any p n c ls a1 sb w h (by omega) (by omega))
      clear h hm
      go_enter Try.func8, Try.ntmps8
      go_wp2_with fail
      refine HG.out.mono ?_
      rintro e w' ⟨⟨b, rfl⟩, rfl⟩
      cases b
      all_goals
        go_wp2_with fail
        go_ret
        exact ⟨rfl, Below.refl _ _⟩
  · have HG := hidC (guard27_any p n c ls a1 sb w h (by omega) (by omega))
    clear h hm
    go_enter Try.func8, Try.ntmps8
    go_wp2_with fail
    refine HG.out.mono ?_
    rintro e w' ⟨⟨b, rfl⟩, rfl⟩
    cases b
    all_goals
      go_wp2_with fail
      go_ret
      exact ⟨rfl, Below.refl _ _⟩

theorem laidOut : laidOutB Try.prog = true := by kernel_rfl

/-- What a slice of strings that came in gives the walk. -/
theorem row_of {H : Type} {enc : TypeId × Value → H} {W : World} {a0 : Option Addr} {len0 cap0 : Nat} {d : DataW H} {ps : List MemPlace} (h0 : DataW.Trod enc Try.prog W 0 (fun _ => true) true 22 (.slice a0 len0 cap0) d ps) :
    ∃ ls, SRow W a0 len0 cap0 ls ∧ len0 ≤ maxLen := by
  obtain ⟨fuel, hf⟩ := h0
  rcases Deep.open_strs Try.underlying22 Try.underlying9 (by kernel_rfl) hf with ⟨hcs, _⟩ | ⟨x, l, c, m, Sx, hcs, _, hl, hcap, hmm, _, hcell⟩
  · simp [Value.cells] at hcs
    obtain ⟨rfl, rfl, rfl⟩ := hcs
    exact ⟨[], ⟨rfl, Nat.le_refl _, .inl ⟨rfl, rfl, rfl⟩⟩, Nat.zero_le _⟩
  · simp [Value.cells] at hcs
    obtain ⟨rfl, rfl, rfl⟩ := hcs
    have hm : m = cap0 := by simpa using hmm
    refine ⟨(List.range len0).map fun i => (Sx i).data.toList, ⟨by simp, hl, .inr ⟨x, rfl, fun i hi => ?_⟩⟩, Nat.le_trans hl hcap⟩
    rw [(hcell i (by omega)).1]
    have : ((List.range len0).map fun i => (Sx i).data.toList).getD i [] = (Sx i).data.toList := by
      rw [List.getD_eq_getElem?_getD]
      simp [hi]
    rw [this]

set_option maxRecDepth 100000 in
theorem lifted (os : Os) (started : os.Started) (H : Type) (enc : TypeId × Value → H) :
    ReturnsInHanded {} Try.checked os 8 .any (Rows.fnCoversMatchesPairwiseModelSpec.pre6 enc Try.prog Try.f8 Rows.fnCoversMatchesPairwiseModelRow.domain false) (Rows.fnCoversMatchesPairwiseModelSpec.post enc Try.prog Try.f8 false true false false) := by
  refine returnsInHanded_of_change_shaped (C := Try.checked) own started (by kernel_rfl) Try.func8
    (ChangeSpec.witness6 (enc := enc) (C := Try.checked) false ⟨#[], #[.slice none 0 0, .string ByteArray.empty, .bool false], []⟩ 8 (by kernel_rfl) (by kernel_rfl) (by kernel_rfl) (by kernel_rfl)) ?_
  intro W base args ds gs before hval0 hW hcnd _ hsh _
  obtain ⟨m, hm⟩ := cell_of_shapedOpen_int (P := Try.prog) (g := 0) (t := 3) (zero := #[.int .i64 0]) hsh (of_decide_eq_true (by kernel_rfl)) (by kernel_rfl) rfl (by kernel_rfl) (by kernel_rfl) Try.underlying3
  have hval : ∀ (j : Nat) t v, Try.f8.params[j]? = some t → args[j]? = some v → Value.okWide Try.prog W .any base t v := hval0
  have hW' := hW
  obtain ⟨p, q, hA0, hV, rfl, hfz, hnd⟩ := hW
  have hA : DataW.TrodAll enc Try.prog W 0 (fun _ => true) true Try.f8.params.toList args.toList ds p := hA0
  rw [Try.params8] at hA hval
  obtain ⟨v0, vs0, d0, ds0, p0, q0, hargs, rfl, rfl, h0, r0⟩ := trodAll_cons hA
  obtain ⟨v1, vs1, d1, ds1, p1, q1, rfl, rfl, rfl, h1, r1⟩ := trodAll_cons r0
  obtain ⟨v2, vs2, d2, ds2, p2, q2, rfl, rfl, rfl, h2, r2⟩ := trodAll_cons r1
  obtain ⟨rfl, rfl, rfl⟩ := trodAll_nil r2
  obtain rfl : args = #[v0, v1, v2] := by cases args; simp_all
  obtain ⟨rfl, rfl⟩ := trodVars_none hV
  obtain ⟨a0, len0, cap0, rfl⟩ := okWide_slice Try.underlying22 (hval 0 22 v0 rfl rfl)
  have k0 := h0
  have lt0 : ∀ x ∈ p0, x.block < W.heap.size := by obtain ⟨m, hm⟩ := k0; exact DataW.trod_lt m _ _ _ hm
  obtain ⟨ls, hrow, hlen⟩ := row_of h0
  obtain ⟨a1, rfl, rfl, rfl, w1⟩ := open_string Try.underlying9 (hval 1 9 v1 rfl rfl) h1
  obtain ⟨b2, rfl, rfl, rfl⟩ := open_bool Try.underlying4 (hval 2 4 v2 rfl rfl) h2
  clear hA0 hval0
  refine (walk a0 len0 cap0 ls a1 b2 W m hrow hlen w1 hm).mono fun e W' ⟨he, bel⟩ => ?_
  subst he
  exact ⟨_, rfl, _, _, _, [], _, [], hW', trodAll_mk1 (shut_bool Try.underlying4 _), (trodAll_cons_mk (Below.trod laidOut (by kernel_rfl) (of_decide_eq_true (by kernel_rfl)) k0 bel lt0) (trodAll_cons_mk (shut_string Try.underlying9 w1) (trodAll_cons_mk (shut_bool Try.underlying4 _) trodAll_mk0))), rfl, bel.frame _, fun h => by cases h⟩

theorem closed : joinedFacts Try.prog 8 Try.f8 Rows.fnCoversMatchesPairwiseModelSpec Rows.fnCoversMatchesPairwiseModelRow = true := by
  unfold joinedFacts
  rw [Head.may, Head.final, Head.make]
  kernel_rfl

theorem over : Rows.fnCoversMatchesPairwiseModelRow.holds Try.pinned (OpenSpec.ofChange Rows.fnCoversMatchesPairwiseModelSpec) :=
  OpenClaim.holds_of_wide 8 Try.f8 rfl rfl rfl rfl rfl rfl rfl ⟨rfl, rfl, rfl, rfl, rfl⟩ rfl rfl rfl rfl rfl (by kernel_rfl) Try.func8 closed
    (of_decide_eq_true (by kernel_rfl)) (by unfold Func.isWrapper; first | (rw [if_pos (by decide +kernel)]; kernel_rfl) | (rw [if_neg (by decide +kernel)]; exact ⟨rfl, rfl⟩))
    (fun os started H enc _ => lifted os started H enc)

theorem proved : Rows.FnCoversMatchesPairwiseModelSaid :=
  over
end Go.Proofs.Qxb6602990a.fnCoversMatchesPairwiseModel
