/-
  The law: dropCovered loses no permission.
-/
import Derived.Test.Qxb6602990aRows
import Derived.Test.Qxb6602990aBoth
import Derived.Test.Qxb6602990aHead
import Derived.WalkKit
import Derived.ProofKit
import Derived.OpenShut
import Derived.ShutString
import Derived.HandedShaped
import Derived.Shelf.Vars
import Derived.Deep.Strs
import Derived.Deep.QuietTactic
import Derived.BigQuiet
namespace Go.Proofs.Qxb6602990a.fnDropCoveredLosesNoPermission
open Go.ChangeShapes Go.WideShapes Go.ChangeAt Go.RowKit
open Pl
set_option linter.unusedVariables false

theorem own : ownKnob Try.prog.godebug = none := by kernel_rfl

/-- Is the entry among the first k that stay, or allowed by one of them? -/
def seen (es : List Ent) (e : Ent) (k : Nat) : Bool := ((keep es).take k).any fun f => f.l == e.l || allowsB f e

theorem seen_all {es : List Ent} (hok : ∀ e ∈ es, e.ok) {e : Ent} (he : e ∈ es) {k : Nat} (hk : (keep es).length ≤ k) : seen es e k = true := by
  unfold seen
  rw [List.take_of_length_le hk, List.any_eq_true]
  exact keep_all es hok _ e he rfl

theorem keep_ents {es : List Ent} {ls : List Bs} (h : EntsOf ls es) : EntsOf ((keep es).map Ent.l) (keep es) :=
  ⟨rfl, fun e he => h.2 e (List.mem_filter.1 he).1⟩

set_option maxHeartbeats 2000000 in
theorem walk_on (p : Option Addr) (n c : Nat) (ls : List Bs) (w : World) (m : Int) (h : SRow w p n c ls) (hn : n ≤ 65536) (hm : w.cell? ⟨0, 0, none⟩ = some (.int .i64 m)) :
    Calls Try.prog 5 #[.slice p n c] w fun e w' => e = .returned (.bool true) ∧ Below w.heap.size w w' := by
  have hlt0 : 0 < w.heap.size := block_lt_of_cell hm
  have HG := hidC (guard19_any p n c ls w h (by omega))
  have HB := hidC (bytes_any p n c ls w h (by omega))
  have HS := hidC (fun hall => entries_any p n c ls w h (by omega) hall)
  have H := hidC h
  have HM := hidC hm
  have Hlen := hidC h.len
  clear h hm
  go_enter Try.func5, Try.ntmps5
  go_wp2_with fail
  refine HG.out.mono ?_
  rintro e w' ⟨⟨b, rfl⟩, rfl⟩
  cases b
  · go_wp2_with fail
    go_ret
    exact ⟨rfl, Below.refl _ _⟩
  go_wp2_with fail
  refine HB.out.mono ?_
  rintro e w' ⟨r, rfl, rfl, hr, hall⟩
  by_cases hrl : 1048576 < r
  · clear hall
    go_wp2_with fail
    go_ret
    exact ⟨rfl, Below.refl _ _⟩
  have HA := hidC (hall (by omega))
  clear hall
  go_wp2_with fail
  refine (HS.out HA.out).mono ?_
  rintro e w0 ⟨rfl, nd, rfl⟩
  have B0 : Hid (Below w'.heap.size w' (w'.drewN nd)) := below_drewN (Below.refl _ _) nd
  have H0 : Hid (SRow (w'.drewN nd) p n c ls) := H.out
  have M0 : Hid ((w'.drewN nd).cell? ⟨0, 0, none⟩ = some (.int .i64 m)) := HM.out
  have L0 : 0 < (w'.drewN nd).heap.size := hlt0
  clear HG HB HS H HM
  generalize w'.drewN nd = w0 at B0 H0 M0 L0 ⊢
  cases hvs : ls.all fun l => vf [] (entS l)
  · go_wp2_with fail
    go_ret
    exact ⟨rfl, B0.out⟩
  obtain ⟨es, hE⟩ := ents_of hvs
  have HE := hidC hE
  have HK := hidC (keep_ents hE)
  have hkl : (keep es).length ≤ n := by have := keep_le es; have := hE.len; have := Hlen.out; omega
  clear hvs hE
  go_wp2_with fail
  refine (copy_all p n c ls w0 H0.out (by omega)).mono ?_
  rintro e w1 ⟨p0, rfl, hcp⟩
  have HR := hidC hcp.row
  have B1 : Hid (Below w'.heap.size w' w1) := B0.out.trans (hcp.2.2.mono B0.out.size)
  have M1 : Hid (w1.cell? ⟨0, 0, none⟩ = some (.int .i64 m)) := (hcp.2.2.cell (p := ⟨0, 0, none⟩) L0).trans M0.out
  have L1 : 0 < w1.heap.size := Nat.lt_of_lt_of_le L0 hcp.2.2.size
  clear hcp H0 M0 B0 L0
  go_wp2_with fail
  refine (copy_all p0 n n ls w1 HR.out (by omega)).mono ?_
  rintro e w2 ⟨p1, rfl, hcp⟩
  have HD := hidC (zdrop_all w1 w2 p1 n ls es m hcp hn L1 HE.out HA.out M1.out)
  clear hcp
  go_wp2_with fail
  refine HD.out.mono ?_
  rintro e w3 ⟨rfl, hd⟩
  have HO := hidC hd.2.1
  have HR3 := hidC (HR.out.kept hd.2.2)
  have B3 : Hid (Below w'.heap.size w' w3) := B1.out.trans (hd.2.2.mono B1.out.size)
  clear hd HD HR B1 M1 L1
  go_wp2_with fail
  go_loopw [5] (fun i wr => ∃ k m : Nat, i = .int .i64 k ∧ k ≤ n ∧ Hid (wr = w3.drewN m)) (fun i _ => n - (intOf i).toNat)
  case atStart => exact ⟨0, 0, rfl, Nat.zero_le _, rfl⟩
  case round =>
    obtain ⟨i, m, rfl, hi, hw⟩ := hrel
    by_cases hlt : i < n
    · obtain ⟨ad, rfl, hc⟩ := HR3.out.at hlt
      obtain ⟨e, hek, hel, heok, hemem⟩ := HE.out.at (k := i) (by rw [Hlen.out]; exact hlt)
      have hlen : e.l.length ≤ 1048576 := by rw [← hel]; exact HA.out _ (getD_mem (by rw [Hlen.out]; exact hlt))
      rw [hel] at hc
      have Hc := hidC hc
      have Hok := hidC heok
      have Hall := hidC (fun k hk => seen_all (k := k) HE.out.2 hemem hk)
      clear hc hek hel heok hemem
      go_wp2_with fail
      go_loopw [6, 7] (fun b j wr => ∃ k m : Nat, j = .int .i64 k ∧ k ≤ (keep es).length ∧ b = .bool (seen es e k) ∧ Hid (wr = w3.drewN m)) (fun _ j _ => (keep es).length - (intOf j).toNat)
      case atStart => exact ⟨0, m, rfl, Nat.zero_le _, rfl, hw⟩
      case round =>
        obtain ⟨k, m2, rfl, hk, rfl, hw2⟩ := hrel
        cases hsn : seen es e k
        · by_cases hkl2 : k < (keep es).length
          · obtain ⟨ad2, rfl, hc2⟩ := HO.out.at hkl2
            obtain ⟨f, hfk, hfl, hfok, hfm⟩ := HK.out.at (k := k) (by simpa using hkl2)
            have hfn : f.l.length ≤ 1048576 := by
              obtain ⟨e', _, hx⟩ := List.mem_map.1 (show f.l ∈ es.map Ent.l from List.mem_map.2 ⟨f, (List.mem_filter.1 hfm).1, rfl⟩)
              exact HA.out _ (by rw [HE.out.1]; exact List.mem_map.2 ⟨f, (List.mem_filter.1 hfm).1, rfl⟩)
            have hst : Hid (seen es e (k + 1) = (seen es e k || (f.l == e.l || allowsB f e))) := any_step hfk
            rw [hfl] at hc2
            have hal := hidC (fun W => allows_any f e W hfok Hok.out hfn hlen)
            have hcf : wr.cell? (ad2.add k) = some (S f.l) := by rw [hw2.out]; exact hc2
            have hce : wr.cell? (ad.add i) = some (S e.l) := by rw [hw2.out]; exact Hc.out
            clear hfk hfl hfok hfm hc2
            cases hq : f.l == e.l
            · cases ha : allowsB f e
              · rw [ha] at hal
                go_wp2_with fail
                go_quiet (first | (go_at_call 20; refine Calls.quiet_of (hal.out _)))
                go_wp2_with fail
                exact ⟨⟨k + 1, m2 + nq, by go_num, by omega, by rw [hst.out, hsn, hq, ha]; rfl, by show _ = _; rw [hw2.out]; exact World.drewN_drewN _ _ _⟩, by simp [intOf]; omega⟩
              · rw [ha] at hal
                go_wp2_with fail
                go_quiet (first | (go_at_call 20; refine Calls.quiet_of (hal.out _)))
                go_wp2_with fail
                exact ⟨⟨k + 1, m2 + nq, by go_num, by omega, by rw [hst.out, hsn, hq, ha]; rfl, by show _ = _; rw [hw2.out]; exact World.drewN_drewN _ _ _⟩, by simp [intOf]; omega⟩
            · go_wp2_with fail
              go_quiet (first | (go_at_call 20; refine Calls.quiet_of (hal.out _)))
              go_wp2_with fail
              exact ⟨⟨k + 1, m2 + nq, by go_num, by omega, by rw [hst.out, hsn, hq]; rfl, by show _ = _; rw [hw2.out]; exact World.drewN_drewN _ _ _⟩, by simp [intOf]; omega⟩
          · exact absurd (Hall.out k (by omega)) (by rw [hsn]; exact Bool.false_ne_true)
        · by_cases hkl2 : k < (keep es).length
          all_goals
            go_wp2_with fail
            exact ⟨⟨i + 1, m2, by go_num, by omega, hw2⟩, by simp [intOf]; omega⟩
    · go_wp2_with fail
      go_ret
      exact ⟨rfl, by rw [hw.out]; exact below_drewN B3.out m⟩

theorem walk (p : Option Addr) (n c : Nat) (ls : List Bs) (w : World) (m : Int) (h : SRow w p n c ls) (hn : n ≤ maxLen) (hm : w.cell? ⟨0, 0, none⟩ = some (.int .i64 m)) :
    Calls Try.prog 5 #[.slice p n c] w fun e w' => e = .returned (.bool true) ∧ Below w.heap.size w w' := by
  unfold maxLen at hn
  by_cases hn2 : n ≤ 65536
  · exact walk_on p n c ls w m h hn2 hm
  · have HG := hidC (guard19_any p n c ls w h (by omega))
    clear h hm
    go_enter Try.func5, Try.ntmps5
    go_wp2_with fail
    refine HG.out.mono ?_
    rintro e w' ⟨⟨b, rfl⟩, rfl⟩
    cases b
    all_goals
      go_wp2_with fail
      go_ret
      exact ⟨rfl, Below.refl _ _⟩

theorem laidOut : laidOutB Try.prog = true := by kernel_rfl

/-- What a slice of strings that came in gives the walk. -/
theorem row_of {H : Type} {enc : TypeId × Value → H} {W : World} {a0 : Option Addr} {len0 cap0 : Nat} {d : DataW H} {ps : List MemPlace} (h0 : DataW.Trod enc Try.prog W 0 (fun _ => true) true 22 (.slice a0 len0 cap0) d ps) :
    ∃ ls, SRow W a0 len0 cap0 ls ∧ len0 ≤ maxLen := by
  obtain ⟨fuel, hf⟩ := h0
  rcases Deep.open_strs Try.underlying22 Try.underlying9 (by kernel_rfl) hf with ⟨hcs, _⟩ | ⟨x, l, c, m, Sx, hcs, _, hl, hcap, hmm, _, hcell⟩
  · simp [Value.cells] at hcs
    obtain ⟨rfl, rfl, rfl⟩ := hcs
    exact ⟨[], ⟨rfl, Nat.le_refl _, .inl ⟨rfl, rfl, rfl⟩⟩, Nat.zero_le _⟩
  · simp [Value.cells] at hcs
    obtain ⟨rfl, rfl, rfl⟩ := hcs
    have hm : m = cap0 := by simpa using hmm
    refine ⟨(List.range len0).map fun i => (Sx i).data.toList, ⟨by simp, hl, .inr ⟨x, rfl, fun i hi => ?_⟩⟩, Nat.le_trans hl hcap⟩
    rw [(hcell i (by omega)).1]
    have : ((List.range len0).map fun i => (Sx i).data.toList).getD i [] = (Sx i).data.toList := by
      rw [List.getD_eq_getElem?_getD]
      simp [hi]
    rw [this]

set_option maxRecDepth 100000 in
theorem lifted (os : Os) (started : os.Started) (H : Type) (enc : TypeId × Value → H) :
    ReturnsInHanded {} Try.checked os 5 .any (Rows.fnDropCoveredLosesNoPermissionSpec.pre6 enc Try.prog Try.f5 Rows.fnDropCoveredLosesNoPermissionRow.domain false) (Rows.fnDropCoveredLosesNoPermissionSpec.post enc Try.prog Try.f5 false true false false) := by
  refine returnsInHanded_of_change_shaped (C := Try.checked) own started (by kernel_rfl) Try.func5
    (ChangeSpec.witness6 (enc := enc) (C := Try.checked) false ⟨#[], #[.slice none 0 0], []⟩ 5 (by kernel_rfl) (by kernel_rfl) (by kernel_rfl) (by kernel_rfl)) ?_
  intro W base args ds gs before hval0 hW hcnd _ hsh _
  obtain ⟨m, hm⟩ := cell_of_shapedOpen_int (P := Try.prog) (g := 0) (t := 3) (zero := #[.int .i64 0]) hsh (of_decide_eq_true (by kernel_rfl)) (by kernel_rfl) rfl (by kernel_rfl) (by kernel_rfl) Try.underlying3
  have hval : ∀ (j : Nat) t v, Try.f5.params[j]? = some t → args[j]? = some v → Value.okWide Try.prog W .any base t v := hval0
  have hW' := hW
  obtain ⟨p, q, hA0, hV, rfl, hfz, hnd⟩ := hW
  have hA : DataW.TrodAll enc Try.prog W 0 (fun _ => true) true Try.f5.params.toList args.toList ds p := hA0
  rw [Try.params5] at hA hval
  obtain ⟨v0, vs0, d0, ds0, p0, q0, hargs, rfl, rfl, h0, r0⟩ := trodAll_cons hA
  obtain ⟨rfl, rfl, rfl⟩ := trodAll_nil r0
  obtain rfl : args = #[v0] := by cases args; simp_all
  obtain ⟨rfl, rfl⟩ := trodVars_none hV
  obtain ⟨a0, len0, cap0, rfl⟩ := okWide_slice Try.underlying22 (hval 0 22 v0 rfl rfl)
  have k0 := h0
  have lt0 : ∀ x ∈ p0, x.block < W.heap.size := by obtain ⟨m, hm⟩ := k0; exact DataW.trod_lt m _ _ _ hm
  obtain ⟨ls, hrow, hlen⟩ := row_of h0
  clear hA0 hval0
  refine (walk a0 len0 cap0 ls W m hrow hlen hm).mono fun e W' ⟨he, bel⟩ => ?_
  subst he
  exact ⟨_, rfl, _, _, _, [], _, [], hW', trodAll_mk1 (shut_bool Try.underlying4 _), (trodAll_cons_mk (Below.trod laidOut (by kernel_rfl) (of_decide_eq_true (by kernel_rfl)) k0 bel lt0) trodAll_mk0), rfl, bel.frame _, fun h => by cases h⟩

theorem closed : joinedFacts Try.prog 5 Try.f5 Rows.fnDropCoveredLosesNoPermissionSpec Rows.fnDropCoveredLosesNoPermissionRow = true := by
  unfold joinedFacts
  rw [Head.may, Head.final, Head.make]
  kernel_rfl

theorem over : Rows.fnDropCoveredLosesNoPermissionRow.holds Try.pinned (OpenSpec.ofChange Rows.fnDropCoveredLosesNoPermissionSpec) :=
  OpenClaim.holds_of_wide 5 Try.f5 rfl rfl rfl rfl rfl rfl rfl ⟨rfl, rfl, rfl, rfl, rfl⟩ rfl rfl rfl rfl rfl (by kernel_rfl) Try.func5 closed
    (of_decide_eq_true (by kernel_rfl)) (by unfold Func.isWrapper; first | (rw [if_pos (by decide +kernel)]; kernel_rfl) | (rw [if_neg (by decide +kernel)]; exact ⟨rfl, rfl⟩))
    (fun os started H enc _ => lifted os started H enc)

theorem proved : Rows.FnDropCoveredLosesNoPermissionSaid :=
  over
end Go.Proofs.Qxb6602990a.fnDropCoveredLosesNoPermission
