/-
  The law: dropCovered keeps just the entries that no other one allows.
-/
import Derived.Test.Qxb6602990aRows
import Derived.Test.Qxb6602990aBoth
import Derived.Test.Qxb6602990aHead
import Derived.WalkKit
import Derived.ProofKit
import Derived.OpenShut
import Derived.ShutString
import Derived.HandedShaped
import Derived.Shelf.Vars
import Derived.Deep.Strs
import Derived.Deep.QuietTactic
import Derived.BigQuiet
namespace Go.Proofs.Qxb6602990a.fnDropCoveredMatchesPairwiseModel
open Go.ChangeShapes Go.WideShapes Go.ChangeAt Go.RowKit
open Pl
set_option linter.unusedVariables false

theorem own : ownKnob Try.prog.godebug = none := by kernel_rfl

theorem kept_at {es : List Ent} {i : Nat} {e : Ent} (h : es[i]? = some e) (hc : (!covB es e) = true) :
    (keptK es i).length < (keep es).length ∧ ((keep es).map Ent.l).getD (keptK es i).length [] = e.l := by
  have hi : i < es.length := by
    rw [List.getElem?_eq_some_iff] at h; exact h.1
  have hsplit : es = es.take i ++ e :: es.drop (i + 1) := by
    have he : es[i] = e := by rw [List.getElem?_eq_some_iff] at h; exact h.2
    rw [← he, ← List.drop_eq_getElem_cons hi, List.take_append_drop]
  have key : ∀ p : Ent → Bool, p e = true → es.filter p = (es.take i).filter p ++ e :: (es.drop (i + 1)).filter p := by
    intro p hp
    calc es.filter p = (es.take i ++ e :: es.drop (i + 1)).filter p := by rw [← hsplit]
      _ = _ := by rw [List.filter_append, List.filter_cons_of_pos hp]
  have hk : keep es = keptK es i ++ e :: (es.drop (i + 1)).filter fun e => !covB es e := key _ hc
  rw [hk]
  constructor
  · simp
  · rw [List.getD_eq_getElem?_getD]
    simp

theorem kept_all {es : List Ent} {i : Nat} (h : es.length ≤ i) : keptK es i = keep es := by
  unfold keptK keep; rw [List.take_of_length_le h]

set_option maxHeartbeats 2000000 in
theorem walk_on (p : Option Addr) (n c : Nat) (ls : List Bs) (w : World) (m : Int) (h : SRow w p n c ls) (hn : n ≤ 65536) (hm : w.cell? ⟨0, 0, none⟩ = some (.int .i64 m)) :
    Calls Try.prog 3 #[.slice p n c] w fun e w' => e = .returned (.bool true) ∧ Below w.heap.size w w' := by
  have hlt0 : 0 < w.heap.size := block_lt_of_cell hm
  have HG := hidC (guard11_any p n c ls w h (by omega))
  have HB := hidC (bytes_any p n c ls w h (by omega))
  have HS := hidC (fun hall => entries_any p n c ls w h (by omega) hall)
  have H := hidC h
  have HM := hidC hm
  have Hlen := hidC h.len
  clear h hm
  go_enter Try.func3, Try.ntmps3
  go_wp2_with fail
  refine HG.out.mono ?_
  rintro e w' ⟨⟨b, rfl⟩, rfl⟩
  cases b
  · go_wp2_with fail
    go_ret
    exact ⟨rfl, Below.refl _ _⟩
  go_wp2_with fail
  refine HB.out.mono ?_
  rintro e w' ⟨r, rfl, rfl, hr, hall⟩
  by_cases hrl : 1048576 < r
  · clear hall
    go_wp2_with fail
    go_ret
    exact ⟨rfl, Below.refl _ _⟩
  have HA := hidC (hall (by omega))
  clear hall
  go_wp2_with fail
  refine (HS.out HA.out).mono ?_
  rintro e w0 ⟨rfl, nd, rfl⟩
  have B0 : Hid (Below w'.heap.size w' (w'.drewN nd)) := below_drewN (Below.refl _ _) nd
  have H0 : Hid (SRow (w'.drewN nd) p n c ls) := H.out
  have M0 : Hid ((w'.drewN nd).cell? ⟨0, 0, none⟩ = some (.int .i64 m)) := HM.out
  have L0 : 0 < (w'.drewN nd).heap.size := hlt0
  clear HG HB HS H HM
  generalize w'.drewN nd = w0 at B0 H0 M0 L0 ⊢
  cases hvs : ls.all fun l => vf [] (entS l)
  · go_wp2_with fail
    go_ret
    exact ⟨rfl, B0.out⟩
  obtain ⟨es, hE⟩ := ents_of hvs
  have HE := hidC hE
  have hkl : (keep es).length ≤ n := by have := keep_le es; have := hE.len; have := Hlen.out; omega
  have hnk : ¬ n < (keep es).length := by omega
  clear hvs hE
  go_wp2_with fail
  refine (copy_all p n c ls w0 H0.out (by omega)).mono ?_
  rintro e w1 ⟨p0, rfl, hcp⟩
  have HR := hidC hcp.row
  have B1 : Hid (Below w'.heap.size w' w1) := B0.out.trans (hcp.2.2.mono B0.out.size)
  have M1 : Hid (w1.cell? ⟨0, 0, none⟩ = some (.int .i64 m)) := (hcp.2.2.cell (p := ⟨0, 0, none⟩) L0).trans M0.out
  have L1 : 0 < w1.heap.size := Nat.lt_of_lt_of_le L0 hcp.2.2.size
  clear hcp H0 M0 B0 L0
  go_wp2_with fail
  refine (copy_all p0 n n ls w1 HR.out (by omega)).mono ?_
  rintro e w2 ⟨p1, rfl, hcp⟩
  have HD := hidC (zdrop_all w1 w2 p1 n ls es m hcp hn L1 HE.out HA.out M1.out)
  clear hcp
  go_wp2_with fail
  refine HD.out.mono ?_
  rintro e w3 ⟨rfl, hd⟩
  have HO := hidC hd.2.1
  have HC := hidC hd.1
  have HR3 := hidC (HR.out.kept hd.2.2)
  have B3 : Hid (Below w'.heap.size w' w3) := B1.out.trans (hd.2.2.mono B1.out.size)
  clear hd HD HR B1 M1 L1
  go_wp2_with fail
  go_loopw [5, 6] (fun kv i wr => ∃ k m : Nat, i = .int .i64 k ∧ k ≤ n ∧ kv = .int .i64 (keptK es k).length ∧ Hid (wr = w3.drewN m)) (fun _ i _ => n - (intOf i).toNat)
  case atStart => exact ⟨0, 0, rfl, Nat.zero_le _, rfl, rfl⟩
  case round =>
    obtain ⟨i, m, rfl, hi, rfl, hw⟩ := hrel
    have hji := kept_le es i
    by_cases hlt : i < n
    · obtain ⟨ad, rfl, hc⟩ := HR3.out.at hlt
      obtain ⟨e, hek, hel, heok, hemem⟩ := HE.out.at (k := i) (by rw [Hlen.out]; exact hlt)
      rw [hel] at hc
      have hrow : Hid (SRow wr (some ad) n n ls) := by show SRow _ _ _ _ _; rw [hw.out]; exact HR3.out
      have HI := hidC (inList_any (some ad) n i ls es e wr hrow.out hn HE.out HA.out hlt hek)
      have Hek := hidC hek
      have Hc := hidC hc
      clear hek hel heok hemem hc hrow
      cases hcv : covB es e
      · rw [hcv] at HI
        obtain ⟨hj1, hj2⟩ := kept_at Hek.out (by rw [hcv]; rfl)
        have hst : Hid ((keptK es (i + 1)).length = (keptK es i).length + 1) := by
          show _ = _
          unfold keptK
          rw [take_succ_at Hek.out, List.filter_append]
          simp [hcv]
        obtain ⟨ad2, rfl, hc2⟩ := HO.out.at hj1
        rw [hj2] at hc2
        have Hc2 := hidC hc2
        clear hj2 hc2
        go_wp2_with fail
        refine HI.out.mono ?_
        rintro r w4 ⟨rfl, m4, rfl⟩
        have hw4 : Hid (wr.drewN m4 = w3.drewN (m + m4)) := by show _ = _; rw [hw.out]; exact World.drewN_drewN _ _ _
        clear HI hw
        generalize wr.drewN m4 = w4 at hw4 ⊢
        have hcf : w4.cell? (ad2.add (keptK es i).length) = some (S e.l) := by rw [hw4.out]; exact Hc2.out
        have hce : w4.cell? (ad.add i) = some (S e.l) := by rw [hw4.out]; exact Hc.out
        have hge : decide (((keep es).length : Int) ≤ ((keptK es i).length : Int)) = false := decide_eq_false (by omega)
        go_wp2_with fail
        go_quiet (fail)
        go_wp2_with fail
        exact ⟨⟨i + 1, m + m4 + nq, by go_num, by omega, by rw [hst.out]; go_num, by show _ = _; rw [hw4.out]; exact World.drewN_drewN _ _ _⟩, by simp [intOf]; omega⟩
      · rw [hcv] at HI
        have hst := hidC (drop_skip Hek.out (by rw [hcv]; rfl))
        go_wp2_with fail
        refine HI.out.mono ?_
        rintro r w4 ⟨rfl, m4, rfl⟩
        have hw4 : Hid (wr.drewN m4 = w3.drewN (m + m4)) := by show _ = _; rw [hw.out]; exact World.drewN_drewN _ _ _
        clear HI hw
        generalize wr.drewN m4 = w4 at hw4 ⊢
        go_wp2_with fail
        exact ⟨⟨i + 1, m + m4, by go_num, by omega, by rw [hst.out], hw4⟩, by simp [intOf]; omega⟩
    · have hka : keptK es i = keep es := kept_all (by rw [HE.out.len, Hlen.out]; omega)
      rw [hka]
      clear hka
      go_wp2_with fail
      go_loopw [7] (fun i wr => ∃ k m : Nat, i = .int .i64 k ∧ k ≤ n ∧ Hid (wr = w3.drewN m)) (fun i _ => n - (intOf i).toNat)
      case atStart => exact ⟨0, m, rfl, Nat.zero_le _, hw⟩
      case round =>
        obtain ⟨i, m, rfl, hi, hw⟩ := hrel
        by_cases hlt : i < n
        · obtain ⟨ad, rfl, hc⟩ := HR3.out.at hlt
          obtain ⟨ad1, rfl, hc1⟩ := HC.out.at hlt
          have hce : wr.cell? (ad.add i) = some (S (ls.getD i [])) := by rw [hw.out]; exact hc
          have hc1' : wr.cell? (ad1.add i) = some (S (((keep es).map Ent.l ++ ls.drop (keep es).length).getD i [])) := by rw [hw.out]; exact hc1
          clear hc hc1
          by_cases hik : i < (keep es).length
          · generalize ((keep es).map Ent.l ++ ls.drop (keep es).length).getD i [] = s1 at hc1'
            go_wp2_with fail
            go_quiet (fail)
            go_wp2_with fail
            exact ⟨⟨i + 1, m + nq, by go_num, by omega, by show _ = _; rw [hw.out]; exact World.drewN_drewN _ _ _⟩, by simp [intOf]; omega⟩
          · rw [row_get _ _ _ (by simp) (by omega)] at hc1'
            generalize ls.getD i [] = s1 at hc1' hce
            go_wp2_with fail
            go_quiet (fail)
            go_wp2_with fail
            exact ⟨⟨i + 1, m + nq, by go_num, by omega, by show _ = _; rw [hw.out]; exact World.drewN_drewN _ _ _⟩, by simp [intOf]; omega⟩
        · go_wp2_with fail
          go_ret
          exact ⟨rfl, by rw [hw.out]; exact below_drewN B3.out m⟩

theorem walk (p : Option Addr) (n c : Nat) (ls : List Bs) (w : World) (m : Int) (h : SRow w p n c ls) (hn : n ≤ maxLen) (hm : w.cell? ⟨0, 0, none⟩ = some (.int .i64 m)) :
    Calls Try.prog 3 #[.slice p n c] w fun e w' => e = .returned (.bool true) ∧ Below w.heap.size w w' := by
  unfold maxLen at hn
  by_cases hn2 : n ≤ 65536
  · exact walk_on p n c ls w m h hn2 hm
  · have HG := hidC (guard11_any p n c ls w h (by omega))
    clear h hm
    go_enter Try.func3, Try.ntmps3
    go_wp2_with fail
    refine HG.out.mono ?_
    rintro e w' ⟨⟨b, rfl⟩, rfl⟩
    cases b
    all_goals
      go_wp2_with fail
      go_ret
      exact ⟨rfl, Below.refl _ _⟩

theorem laidOut : laidOutB Try.prog = true := by kernel_rfl

/-- What a slice of strings that came in gives the walk. -/
theorem row_of {H : Type} {enc : TypeId × Value → H} {W : World} {a0 : Option Addr} {len0 cap0 : Nat} {d : DataW H} {ps : List MemPlace} (h0 : DataW.Trod enc Try.prog W 0 (fun _ => true) true 22 (.slice a0 len0 cap0) d ps) :
    ∃ ls, SRow W a0 len0 cap0 ls ∧ len0 ≤ maxLen := by
  obtain ⟨fuel, hf⟩ := h0
  rcases Deep.open_strs Try.underlying22 Try.underlying9 (by kernel_rfl) hf with ⟨hcs, _⟩ | ⟨x, l, c, m, Sx, hcs, _, hl, hcap, hmm, _, hcell⟩
  · simp [Value.cells] at hcs
    obtain ⟨rfl, rfl, rfl⟩ := hcs
    exact ⟨[], ⟨rfl, Nat.le_refl _, .inl ⟨rfl, rfl, rfl⟩⟩, Nat.zero_le _⟩
  · simp [Value.cells] at hcs
    obtain ⟨rfl, rfl, rfl⟩ := hcs
    have hm : m = cap0 := by simpa using hmm
    refine ⟨(List.range len0).map fun i => (Sx i).data.toList, ⟨by simp, hl, .inr ⟨x, rfl, fun i hi => ?_⟩⟩, Nat.le_trans hl hcap⟩
    rw [(hcell i (by omega)).1]
    have : ((List.range len0).map fun i => (Sx i).data.toList).getD i [] = (Sx i).data.toList := by
      rw [List.getD_eq_getElem?_getD]
      simp [hi]
    rw [this]

set_option maxRecDepth 100000 in
theorem lifted (os : Os) (started : os.Started) (H : Type) (enc : TypeId × Value → H) :
    ReturnsInHanded {} Try.checked os 3 .any (Rows.fnDropCoveredMatchesPairwiseModelSpec.pre6 enc Try.prog Try.f3 Rows.fnDropCoveredMatchesPairwiseModelRow.domain false) (Rows.fnDropCoveredMatchesPairwiseModelSpec.post enc Try.prog Try.f3 false true false false) := by
  refine returnsInHanded_of_change_shaped (C := Try.checked) own started (by kernel_rfl) Try.func3
    (ChangeSpec.witness6 (enc := enc) (C := Try.checked) false ⟨#[], #[.slice none 0 0], []⟩ 3 (by kernel_rfl) (by kernel_rfl) (by kernel_rfl) (by kernel_rfl)) ?_
  intro W base args ds gs before hval0 hW hcnd _ hsh _
  obtain ⟨m, hm⟩ := cell_of_shapedOpen_int (P := Try.prog) (g := 0) (t := 3) (zero := #[.int .i64 0]) hsh (of_decide_eq_true (by kernel_rfl)) (by kernel_rfl) rfl (by kernel_rfl) (by kernel_rfl) Try.underlying3
  have hval : ∀ (j : Nat) t v, Try.f3.params[j]? = some t → args[j]? = some v → Value.okWide Try.prog W .any base t v := hval0
  have hW' := hW
  obtain ⟨p, q, hA0, hV, rfl, hfz, hnd⟩ := hW
  have hA : DataW.TrodAll enc Try.prog W 0 (fun _ => true) true Try.f3.params.toList args.toList ds p := hA0
  rw [Try.params3] at hA hval
  obtain ⟨v0, vs0, d0, ds0, p0, q0, hargs, rfl, rfl, h0, r0⟩ := trodAll_cons hA
  obtain ⟨rfl, rfl, rfl⟩ := trodAll_nil r0
  obtain rfl : args = #[v0] := by cases args; simp_all
  obtain ⟨rfl, rfl⟩ := trodVars_none hV
  obtain ⟨a0, len0, cap0, rfl⟩ := okWide_slice Try.underlying22 (hval 0 22 v0 rfl rfl)
  have k0 := h0
  have lt0 : ∀ x ∈ p0, x.block < W.heap.size := by obtain ⟨m, hm⟩ := k0; exact DataW.trod_lt m _ _ _ hm
  obtain ⟨ls, hrow, hlen⟩ := row_of h0
  clear hA0 hval0
  refine (walk a0 len0 cap0 ls W m hrow hlen hm).mono fun e W' ⟨he, bel⟩ => ?_
  subst he
  exact ⟨_, rfl, _, _, _, [], _, [], hW', trodAll_mk1 (shut_bool Try.underlying4 _), (trodAll_cons_mk (Below.trod laidOut (by kernel_rfl) (of_decide_eq_true (by kernel_rfl)) k0 bel lt0) trodAll_mk0), rfl, bel.frame _, fun h => by cases h⟩

theorem closed : joinedFacts Try.prog 3 Try.f3 Rows.fnDropCoveredMatchesPairwiseModelSpec Rows.fnDropCoveredMatchesPairwiseModelRow = true := by
  unfold joinedFacts
  rw [Head.may, Head.final, Head.make]
  kernel_rfl

theorem over : Rows.fnDropCoveredMatchesPairwiseModelRow.holds Try.pinned (OpenSpec.ofChange Rows.fnDropCoveredMatchesPairwiseModelSpec) :=
  OpenClaim.holds_of_wide 3 Try.f3 rfl rfl rfl rfl rfl rfl rfl ⟨rfl, rfl, rfl, rfl, rfl⟩ rfl rfl rfl rfl rfl (by kernel_rfl) Try.func3 closed
    (of_decide_eq_true (by kernel_rfl)) (by unfold Func.isWrapper; first | (rw [if_pos (by decide +kernel)]; kernel_rfl) | (rw [if_neg (by decide +kernel)]; exact ⟨rfl, rfl⟩))
    (fun os started H enc _ => lifted os started H enc)

theorem proved : Rows.FnDropCoveredMatchesPairwiseModelSaid :=
  over
end Go.Proofs.Qxb6602990a.fnDropCoveredMatchesPairwiseModel
