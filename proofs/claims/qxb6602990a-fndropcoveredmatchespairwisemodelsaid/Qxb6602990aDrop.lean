/-
  dropCovered.
-/
import Derived.Test.Qxb6602990aBuilt
namespace Go.Proofs.Qxb6602990a
open Go.RowKit Pl

/-- The strings are these entries. -/
def EntsOf (ls : List Bs) (es : List Ent) : Prop := ls = es.map Ent.l ∧ ∀ e ∈ es, e.ok

theorem ents_of {ls : List Bs} (h : (ls.all fun l => vf [] (entS l)) = true) : ∃ es, EntsOf ls es := by
  induction ls with
  | nil => exact ⟨[], rfl, by simp⟩
  | cons l ls ih =>
    simp only [List.all_cons, Bool.and_eq_true] at h
    obtain ⟨x, hn, hg, he⟩ := vf_nil h.1
    obtain ⟨es, h1, h2⟩ := ih h.2
    refine ⟨⟨x, entQ l, l⟩ :: es, by rw [h1]; rfl, ?_⟩
    intro y hy
    rcases List.mem_cons.1 hy with rfl | hy
    · exact ⟨he, rfl, hg, hn⟩
    · exact h2 y hy

theorem EntsOf.len {ls : List Bs} {es : List Ent} (h : EntsOf ls es) : es.length = ls.length := by rw [h.1]; simp
theorem EntsOf.at {ls : List Bs} {es : List Ent} (h : EntsOf ls es) {k : Nat} (hk : k < ls.length) : ∃ e, es[k]? = some e ∧ ls.getD k [] = e.l ∧ e.ok ∧ e ∈ es := by
  have hk' : k < es.length := by rw [h.len]; exact hk
  refine ⟨es[k], List.getElem?_eq_getElem hk', ?_, h.2 _ (List.getElem_mem _), List.getElem_mem _⟩
  rw [getD_at hk]
  have := h.1
  subst this
  simp

theorem cut_ent (e : Ent) (he : e.ok) (m : Int) (w : World) (hs : e.l.length < 4294967281) (hm : w.cell? ⟨0, 0, none⟩ = some (.int .i64 m)) :
    ∃ f : Bool, Calls Try.prog 43 #[S e.l, .string ⟨#[32]⟩] w fun r w' => r = .returned (.tuple #[S (joinD e.x), S e.q, .bool f]) ∧ ∃ n, w' = w.drewN n := by
  refine ⟨(Lib.cut e.l [32]).2.2, ?_⟩
  have := cut_any e.l 32 m w hs hm
  have h1 : (Lib.cut e.l [32]).1 = joinD e.x := he.1
  have h2 : (Lib.cut e.l [32]).2.1 = e.q := he.2.1
  rw [h1, h2] at this
  exact this

theorem built_start (W : World) : Built W ((W.alloc node0).alloc (.map #[] 0)) W.heap.size (W.heap.size + 1) [] (Tr.zero.root [] W.heap.size) := by
  have hz : (W.alloc node0).heap.size = W.heap.size + 1 := by simp
  have hnode : ((W.alloc node0).alloc (.map #[] 0)).heap[W.heap.size]? = some (.cells #[.map none, .bool false] 53) := by
    rw [Below.heap_alloc _ _ _ (by omega)]; exact (MapKept.heap_alloc W _).1
  have hmap : ((W.alloc node0).alloc (.map #[] 0)).heap[W.heap.size + 1]? = some (.map #[] 0) := by
    rw [← hz]; exact (MapKept.heap_alloc _ _).1
  refine ⟨(Forest.zero W).root rfl (Nat.le_refl _) hnode (fun k hk => (own_zero k hk).elim), by simp [Tr.root], ⟨#[], 0, hmap, ?_, ?_⟩, ?_, fun _ _ => rfl, ?_, ?_, Nat.le_succ _, by simp⟩
  · intro x hx; simp at hx
  · intro l a h
    by_cases e : l = []
    · simp [e] at h
    · simp [e, Tr.root, Tr.zero] at h
  · intro q hq
    by_cases e : q = []
    · subst e; exact repr_root (Forest.zero W) rfl
    · simp [e, Tr.root, Tr.zero] at hq
  · exact ((Below.refl _ _).alloc (Nat.le_refl _) _).alloc (by simp) _
  · intro k hk
    have := (own_root hk).resolve_right (own_zero k)
    subst this
    exact ⟨Nat.le_refl _, by omega⟩

/-- The entries that stay, of the first k. -/
def keptK (es : List Ent) (k : Nat) : List Ent := (es.take k).filter fun e => !covB es e

theorem kept_le (es : List Ent) (k : Nat) : (keptK es k).length ≤ k := by
  unfold keptK
  exact Nat.le_trans (List.length_filter_le _ _) (List.length_take_le _ _)

theorem drop_skip {es : List Ent} {k : Nat} {e : Ent} (h : es[k]? = some e) (hc : (!covB es e) = false) : keptK es (k + 1) = keptK es k := by
  unfold keptK
  rw [take_succ_at h, List.filter_append]
  simp [hc]

theorem row_get (A ls : List Bs) (k : Nat) {j : Nat} (hA : A.length = j) (hj : j ≤ k) : (A ++ ls.drop j).getD k [] = ls.getD k [] := by
  rw [List.getD_eq_getElem?_getD, List.getD_eq_getElem?_getD, List.getElem?_append_right (by omega), List.getElem?_drop]
  congr 2
  omega

theorem drop_step {ls : List Bs} {es : List Ent} {b n k : Nat} {e : Ent} (h : es[k]? = some e) (hc : (!covB es e) = true) (hn : ls.length = n) (hj : (keptK es k).length < n) :
    ∀ w6, RowAt w6 b (((keptK es k).map Ent.l ++ ls.drop (keptK es k).length).set (keptK es k).length e.l) →
      (keptK es k).length + 1 = (keptK es (k + 1)).length ∧ Hid (RowAt w6 b ((keptK es (k + 1)).map Ent.l ++ ls.drop (keptK es (k + 1)).length)) := by
  intro w6 hr
  have hk : keptK es (k + 1) = keptK es k ++ [e] := by
    unfold keptK
    rw [take_succ_at h, List.filter_append]
    simp [hc]
  refine ⟨by rw [hk]; simp, ?_⟩
  rw [hk]
  have hset : ((keptK es k).map Ent.l ++ ls.drop (keptK es k).length).set (keptK es k).length e.l = (keptK es k ++ [e]).map Ent.l ++ ls.drop ((keptK es k ++ [e]).length) := by
    have hd : ls.drop (keptK es k).length = ls[(keptK es k).length]'(by omega) :: ls.drop ((keptK es k).length + 1) := List.drop_eq_getElem_cons (by omega)
    rw [List.set_append_right _ _ (by simp), List.length_map, Nat.sub_self, hd, List.set_cons_zero, List.map_append, List.length_append, List.append_assoc]
    rfl
  rw [hset] at hr
  exact hr

theorem KeptBut.alloc (F : Nat → Prop) (w : World) (o : Obj) : KeptBut F w (w.alloc o) := ⟨rfl, rfl, rfl, by simp, fun k hk _ => Below.heap_alloc _ _ _ hk⟩

set_option maxHeartbeats 4000000 in
theorem drop_any (b n : Nat) (ls : List Bs) (es : List Ent) (W : World) (m : Int) (hrow : RowAt W b ls) (hn : ls.length = n) (hn2 : n ≤ 65536) (hb : b < W.heap.size) (hb0 : 0 < b)
    (hE : EntsOf ls es) (hall : ∀ l ∈ ls, l.length ≤ 1048576) (hm : W.cell? ⟨0, 0, none⟩ = some (.int .i64 m)) :
    Calls Try.prog 37 #[.slice (some ⟨b, 0, none⟩) n n] W fun e w' => e = .returned (.slice (some ⟨b, 0, none⟩) (es.filter fun e => !covB es e).length n) ∧
      RowAt w' b ((es.filter fun e => !covB es e).map Ent.l ++ ls.drop (es.filter fun e => !covB es e).length) ∧ KeptBut (· = b) W w' := by
  have hstart := hidC (built_start W)
  have hlt0 : 0 < W.heap.size := by omega
  have hmm := @run_makeMap Try.prog
  have HR := hidC hrow
  have Hn := hidC hn
  have HE := hidC hE
  have HA := hidC hall
  have HM := hidC hm
  clear hrow hn hE hall hm
  go_enter Try.func37, Try.ntmps37
  go_wp2_with fail
  go_loopw [23] (fun i wr => ∃ k : Nat, i = .int .i64 k ∧ k ≤ n ∧ Hid (∃ T, Built W wr W.heap.size (W.heap.size + 1) (es.take k) T)) (fun i _ => n - (intOf i).toNat)
  case atStart => exact ⟨0, rfl, Nat.zero_le _, ⟨_, hstart.out⟩⟩
  case round =>
    obtain ⟨k, rfl, hk, hT⟩ := hrel
    clear hstart
    by_cases hlt : k < n
    · obtain ⟨T, hB⟩ := hT.out
      obtain ⟨e, hek, hel, heok, hemem⟩ := HE.out.at (k := k) (by rw [Hn.out]; exact hlt)
      have hlen : e.l.length ≤ 1048576 := by rw [← hel]; exact HA.out _ (getD_mem (by rw [Hn.out]; exact hlt))
      have hc : wr.cell? ⟨b, k, none⟩ = some (S e.l) := by
        rw [hB.below.cell (p := ⟨b, k, none⟩) hb, rowAt_cell HR.out (by rw [Hn.out]; exact hlt), hel]
      have hm' : wr.cell? ⟨0, 0, none⟩ = some (.int .i64 m) := (hB.below.cell (p := ⟨0, 0, none⟩) hlt0).trans HM.out
      obtain ⟨f, hcut⟩ := cut_ent e heok m wr (by omega) hm'
      have Hcut := hidC hcut
      have HB := hidC hB
      have Hek := hidC hek
      have Hok := hidC heok
      clear hT hB hek hel heok hemem hcut hm'
      go_wp2_with fail
      refine Hcut.out.mono ?_
      rintro r w1 ⟨rfl, nd, rfl⟩
      have HB1 := hidC (HB.out.drewN nd)
      clear HB Hcut hc
      generalize wr.drewN nd = w1 at HB1 ⊢
      have hm1 : w1.cell? ⟨0, 0, none⟩ = some (.int .i64 m) := (HB1.out.below.cell (p := ⟨0, 0, none⟩) hlt0).trans HM.out
      have hxl : (joinD e.x).length < 4294967281 := by have := (ent_len e.l).1; rw [Hok.out.1] at this; omega
      have hnext : Hid (∀ T1 w1 a, Built W w1 W.heap.size (W.heap.size + 1) (es.take k) T1 → T1.A e.q [] = some a → ∀ w2, (∃ T', Added e.q e.x T1 T' w1 w2) → ∃ T', Built W w2 W.heap.size (W.heap.size + 1) (es.take (k + 1)) T') := by
        rintro T1 w1 a hb1 ha w2 ⟨T', hA⟩
        rw [take_succ_at Hek.out]
        exact ⟨T', hb1.added ha hA⟩
      by_cases hq : e.q = []
      · have hz : List.isEmpty e.q = true := by rw [hq]; rfl
        have hpl : T.A e.q [] = some W.heap.size := by rw [hq]; exact HB1.out.plain
        have hadd := hidC (add_any T e.q e.x W.heap.size w1 m Hok.out.2.2.1 Hok.out.2.2.2 HB1.out.forest hpl hxl hm1 (fun h => by have := (HB1.out.own 0 h).1; omega))
        have Hpl := hidC hpl
        clear hq hpl hm1
        go_wp2_with fail
        refine hadd.out.mono ?_
        rintro r w2 ⟨⟨v, rfl⟩, hA⟩
        have HN := hidC (hnext.out T w1 _ HB1.out Hpl.out w2 hA)
        clear hA
        go_wp2_with fail
        exact ⟨⟨k + 1, by go_num, by omega, HN⟩, by simp [intOf]; omega⟩
      · have hz : List.isEmpty e.q = false := by
          cases h : e.q with
          | nil => exact absurd h hq
          | cons x y => rfl
        have hlook := HB1.out.look hq
        cases hTA : T.A e.q [] with
        | some a =>
          rw [hTA] at hlook
          have hlook' : (Instr.lookup 51 (.map (some (W.heap.size + 1))) (S e.q) false).run Try.prog w1 = .ok (ptr a) w1 := hlook
          have hadd := hidC (add_any T e.q e.x a w1 m Hok.out.2.2.1 Hok.out.2.2.2 HB1.out.forest hTA hxl hm1 (fun h => by have := (HB1.out.own 0 h).1; omega))
          have HTA := hidC hTA
          clear hq hTA hm1 hlook
          go_wp2_with fail
          refine hadd.out.mono ?_
          rintro r w2 ⟨⟨v, rfl⟩, hA⟩
          have HN := hidC (hnext.out T w1 _ HB1.out HTA.out w2 hA)
          clear hA
          go_wp2_with fail
          exact ⟨⟨k + 1, by go_num, by omega, HN⟩, by simp [intOf]; omega⟩
        | none =>
          rw [hTA] at hlook
          have hlook' : (Instr.lookup 51 (.map (some (W.heap.size + 1))) (S e.q) false).run Try.prog w1 = .ok (.pointer none) w1 := hlook
          obtain ⟨w2, hrun, k1, k2, k3⟩ := run_put (w := w1.alloc node0) (mapIs_of_block HB1.out.map (Below.heap_alloc _ _ _ HB1.out.lt)) e.q w1.heap.size (by simp [hq, hTA])
          have HB2 := hidC (HB1.out.made hq hTA k1 k2 k3)
          have hm2 : w2.cell? ⟨0, 0, none⟩ = some (.int .i64 m) := (HB2.out.below.cell (p := ⟨0, 0, none⟩) hlt0).trans HM.out
          have hroot : (T.root e.q w1.heap.size).A e.q [] = some w1.heap.size := by simp [Tr.root]
          have hadd := hidC (add_any (T.root e.q w1.heap.size) e.q e.x w1.heap.size w2 m Hok.out.2.2.1 Hok.out.2.2.2 HB2.out.forest hroot hxl hm2 (fun h => by have := (HB2.out.own 0 h).1; omega))
          have Hroot := hidC hroot
          clear hq hTA hm1 hlook k1 k2 k3 hm2 hroot
          go_wp2_with fail
          refine hadd.out.mono ?_
          rintro r w3 ⟨⟨v, rfl⟩, hA⟩
          have HN := hidC (hnext.out _ w2 _ HB2.out Hroot.out w3 hA)
          clear hA
          go_wp2_with fail
          exact ⟨⟨k + 1, by go_num, by omega, HN⟩, by simp [intOf]; omega⟩
    · have hkn : es.take k = es := List.take_of_length_le (by rw [HE.out.len, Hn.out]; omega)
      rw [hkn] at hT
      obtain ⟨T, hBu⟩ := hT.out
      have HBu := hidC hBu
      clear hkn hT hBu
      go_wp2_with fail
      clear hlt hk
      generalize wr = w1 at HBu ⊢
      have hb1 : b < w1.heap.size := Nat.lt_of_lt_of_le hb HBu.out.below.size
      have hrow1 : Hid (RowAt w1 b ls) := rowAt_of_block HR.out (HBu.out.below.block b hb)
      go_loopw [11, 54] (fun out i w2 => ∃ k : Nat, i = .int .i64 k ∧ k ≤ n ∧ out = .slice (some ⟨b, 0, none⟩) (keptK es k).length n ∧ Hid (RowAt w2 b ((keptK es k).map Ent.l ++ ls.drop (keptK es k).length)) ∧ Hid (KeptBut (· = b) w1 w2)) (fun _ i _ => n - (intOf i).toNat)
      case atStart => exact ⟨0, rfl, Nat.zero_le _, rfl, hrow1, KeptBut.refl _ _⟩
      case round =>
        obtain ⟨k, rfl, hk, rfl, hR2, hK2⟩ := hrel
        clear hrow1
        have hjk := kept_le es k
        by_cases hlt : k < n
        · obtain ⟨e, hek, hel, heok, hemem⟩ := HE.out.at (k := k) (by rw [Hn.out]; exact hlt)
          have hlen : e.l.length ≤ 1048576 := by rw [← hel]; exact HA.out _ (getD_mem (by rw [Hn.out]; exact hlt))
          have hvs : ((keptK es k).map Ent.l ++ ls.drop (keptK es k).length).length = n := by
            simp; have := Hn.out; omega
          have hc : wr.cell? ⟨b, k, none⟩ = some (S e.l) := by
            rw [rowAt_cell hR2.out (by rw [hvs]; exact hlt), ← hel, row_get _ _ _ (by simp) hjk]
          have hm' : wr.cell? ⟨0, 0, none⟩ = some (.int .i64 m) := by
            rw [hK2.out.cell (p := ⟨0, 0, none⟩) (Nat.lt_of_lt_of_le hlt0 HBu.out.below.size) (fun h => by simp at h; omega)]
            exact (HBu.out.below.cell (p := ⟨0, 0, none⟩) hlt0).trans HM.out
          obtain ⟨f, hcut⟩ := cut_ent e heok m wr (by omega) hm'
          have Hcut := hidC hcut
          have Hek := hidC hek
          have Hok := hidC heok
          have Hmem := hidC hemem
          have hjn : (keptK es k).length < n := by omega
          clear hek hel heok hemem hcut
          go_wp2_with fail
          refine Hcut.out.mono ?_
          rintro r w3 ⟨rfl, nd, rfl⟩
          have HR3 : Hid (RowAt (wr.drewN nd) b ((keptK es k).map Ent.l ++ ls.drop (keptK es k).length)) := hR2.out
          have HK3 : Hid (KeptBut (· = b) w1 (wr.drewN nd)) := hK2.out.drewN nd
          have hm3 : (wr.drewN nd).cell? ⟨0, 0, none⟩ = some (.int .i64 m) := hm'
          clear Hcut hc hR2 hK2 hm'
          generalize wr.drewN nd = w3 at HR3 HK3 hm3 ⊢
          have hxl : (joinD e.x).length < 4294967281 := by have := (ent_len e.l).1; rw [Hok.out.1] at this; omega
          have hfor : ∀ w4, KeptBut (· = b) w1 w4 → Forest w4 T := fun w4 h4 => HBu.out.forest.of_heap fun i hi => h4.block i (HBu.out.forest.own_lt hi) (fun e => by have := (HBu.out.own i hi).1; have e' : i = b := e; omega)
          have Hfor := hidC hfor
          clear hfor
          have hgood : ∀ q, ∀ x ∈ subsQ q es, GoodS x := fun q x hx => by obtain ⟨g, hg, _, rfl⟩ := mem_subsQ.1 hx; exact (HE.out.2 g hg).2.2.1
          have Hgood := hidC hgood
          clear hgood
          have hcp := hidC (fun (self : Bool) => covers_any T [] (subsQ [] es) (HBu.out.repr [] (by rw [HBu.out.plain]; rfl)) m e.x Hok.out.2.2.1 hxl [] W.heap.size self w3 (Hfor.out w3 HK3.out) HBu.out.plain hm3)
          have hcp' : Hid (∀ self : Bool, Calls Try.prog 41 #[ptr W.heap.size, S (joinD e.x), .bool self] w3 fun r w' => r = .returned (.bool (anyC e.x (subsQ [] es) self)) ∧ ∃ n, w' = w3.drewN n) := by
            intro self
            have h := hcp.out self
            rw [show rem [] (subsQ [] es) = subsQ [] es from rfl, covL_any _ _ _ Hok.out.2.2.1 (Hgood.out [])] at h
            exact h
          clear hcp
          by_cases hq : e.q = []
          · have hz : List.isEmpty e.q = true := by rw [hq]; rfl
            cases hc1 : anyC e.x (subsQ [] es) true
            · have hcov : covB es e = false := by unfold covB; rw [hz, hc1]; rfl
              have h1 := hidC (hcp'.out true)
              rw [hc1] at h1
              clear hq hcp'
              go_wp2_with fail
              refine h1.out.mono ?_
              rintro r w5 ⟨rfl, n5, rfl⟩
              have HR5 : Hid (RowAt (w3.drewN n5) b ((keptK es k).map Ent.l ++ ls.drop (keptK es k).length)) := HR3.out
              have HK5 : Hid (KeptBut (· = b) w1 (w3.drewN n5)) := HK3.out.drewN n5
              clear HR3 HK3 h1 hm3
              generalize w3.drewN n5 = w5 at HR5 HK5 ⊢
              have hbl : b < w5.heap.size := Nat.lt_of_lt_of_le (Nat.lt_of_lt_of_le hb HBu.out.below.size) HK5.out.size
              have hstep := hidC (drop_step (ls := ls) (b := b) (n := n) Hek.out (by rw [hcov]; rfl) Hn.out (by have := kept_le es k; omega))
              go_wp2_with (at_builtin; refine wp_app _ rfl _ _ rfl b _ n 1 _ ⟨w5.heap.size, 0, none⟩ e.l rfl rfl (rowAt_of_block HR5.out (Below.heap_alloc _ _ _ hbl)) hvs hjn (by rw [Go.WideShapes.add_plain]; exact (World.cell?_alloc_at _ _ _ _ rfl).trans rfl) ?_; intro w6 hr6 hk6 hz6)
              have HN := hidC (hstep.out w6 hr6)
              have HK6 : Hid (KeptBut (· = b) w1 w6) := (HK5.out.trans (KeptBut.alloc _ _ _)).trans hk6
              clear hr6 hk6 hz6
              go_wp2_with fail
              exact ⟨⟨k + 1, by go_num, by omega, by rw [HN.out.1], HN.out.2, HK6⟩, by simp [intOf]; omega⟩
            · have hcov : covB es e = true := by unfold covB; rw [hz, hc1]; rfl
              have h1 := hidC (hcp'.out true)
              rw [hc1] at h1
              clear hq hcp'
              go_wp2_with fail
              refine h1.out.mono ?_
              rintro r w5 ⟨rfl, n5, rfl⟩
              have HR5 : Hid (RowAt (w3.drewN n5) b ((keptK es k).map Ent.l ++ ls.drop (keptK es k).length)) := HR3.out
              have HK5 : Hid (KeptBut (· = b) w1 (w3.drewN n5)) := HK3.out.drewN n5
              clear HR3 HK3 h1 hm3
              generalize w3.drewN n5 = w5 at HR5 HK5 ⊢
              have hstep := hidC (drop_skip Hek.out (by rw [hcov]; rfl))
              go_wp2_with fail
              exact ⟨⟨k + 1, by go_num, by omega, by rw [hstep.out], by rw [hstep.out]; exact HR5, HK5⟩, by simp [intOf]; omega⟩
          · have hz : List.isEmpty e.q = false := by
              cases h : e.q with
              | nil => exact absurd h hq
              | cons x y => rfl
            cases hc1 : anyC e.x (subsQ [] es) false
            · obtain ⟨a, hTA⟩ : ∃ a, T.A e.q [] = some a := by
                cases h : T.A e.q [] with
                | some a => exact ⟨a, rfl⟩
                | none =>
                  have h0 := HBu.out.none e.q h
                  have : e.x ∈ subsQ e.q es := mem_subsQ.2 ⟨e, Hmem.out, rfl, rfl⟩
                  rw [h0] at this; cases this
              have h1 := hidC (hcp'.out false)
              rw [hc1] at h1
              have Hq := hidC hq
              clear hq hcp'
              go_wp2_with fail
              refine h1.out.mono ?_
              rintro r w5 ⟨rfl, n5, rfl⟩
              have HR4 : Hid (RowAt (w3.drewN n5) b ((keptK es k).map Ent.l ++ ls.drop (keptK es k).length)) := HR3.out
              have HK4 : Hid (KeptBut (· = b) w1 (w3.drewN n5)) := HK3.out.drewN n5
              have hm4 : (w3.drewN n5).cell? ⟨0, 0, none⟩ = some (.int .i64 m) := hm3
              clear HR3 HK3 h1 hm3
              generalize w3.drewN n5 = w4 at HR4 HK4 hm4 ⊢
              have hmap4 : MapIs w4 (W.heap.size + 1) (fun q => if q = [] then none else T.A q []) := mapIs_of_block HBu.out.map (HK4.out.block _ HBu.out.lt (fun e => by have := HBu.out.base; have e' : W.heap.size + 1 = b := e; omega))
              have hlook : (Instr.lookup 51 (.map (some (W.heap.size + 1))) (S e.q) false).run Try.prog w4 = .ok (ptr a) w4 := by
                have := run_look hmap4 e.q
                rw [if_neg Hq.out, hTA] at this
                exact this
              have h2 : Hid (Calls Try.prog 41 #[ptr a, S (joinD e.x), .bool true] w4 fun r w' => r = .returned (.bool (anyC e.x (subsQ e.q es) true)) ∧ ∃ n, w' = w4.drewN n) := by
                have h := covers_any T e.q (subsQ e.q es) (HBu.out.repr e.q (by rw [hTA]; rfl)) m e.x Hok.out.2.2.1 hxl [] a true w4 (Hfor.out w4 HK4.out) hTA hm4
                rw [show rem [] (subsQ e.q es) = subsQ e.q es from rfl, covL_any _ _ _ Hok.out.2.2.1 (Hgood.out e.q)] at h
                exact h
              clear hmap4 hTA hm4
              cases hc2 : anyC e.x (subsQ e.q es) true
              · have hcov : covB es e = false := by unfold covB; rw [hz, hc1, hc2]; rfl
                rw [hc2] at h2
                go_wp2_with fail
                refine h2.out.mono ?_
                rintro r w5 ⟨rfl, n6, rfl⟩
                have HR5 : Hid (RowAt (w4.drewN n6) b ((keptK es k).map Ent.l ++ ls.drop (keptK es k).length)) := HR4.out
                have HK5 : Hid (KeptBut (· = b) w1 (w4.drewN n6)) := HK4.out.drewN n6
                clear HR4 HK4 h2 hlook
                generalize w4.drewN n6 = w5 at HR5 HK5 ⊢
                have hbl : b < w5.heap.size := Nat.lt_of_lt_of_le (Nat.lt_of_lt_of_le hb HBu.out.below.size) HK5.out.size
                have hstep := hidC (drop_step (ls := ls) (b := b) (n := n) Hek.out (by rw [hcov]; rfl) Hn.out (by have := kept_le es k; omega))
                go_wp2_with (at_builtin; refine wp_app _ rfl _ _ rfl b _ n 1 _ ⟨w5.heap.size, 0, none⟩ e.l rfl rfl (rowAt_of_block HR5.out (Below.heap_alloc _ _ _ hbl)) hvs hjn (by rw [Go.WideShapes.add_plain]; exact (World.cell?_alloc_at _ _ _ _ rfl).trans rfl) ?_; intro w6 hr6 hk6 hz6)
                have HN := hidC (hstep.out w6 hr6)
                have HK6 : Hid (KeptBut (· = b) w1 w6) := (HK5.out.trans (KeptBut.alloc _ _ _)).trans hk6
                clear hr6 hk6 hz6
                go_wp2_with fail
                exact ⟨⟨k + 1, by go_num, by omega, by rw [HN.out.1], HN.out.2, HK6⟩, by simp [intOf]; omega⟩
              · have hcov : covB es e = true := by unfold covB; rw [hz, hc1, hc2]; rfl
                rw [hc2] at h2
                go_wp2_with fail
                refine h2.out.mono ?_
                rintro r w5 ⟨rfl, n6, rfl⟩
                have HR5 : Hid (RowAt (w4.drewN n6) b ((keptK es k).map Ent.l ++ ls.drop (keptK es k).length)) := HR4.out
                have HK5 : Hid (KeptBut (· = b) w1 (w4.drewN n6)) := HK4.out.drewN n6
                clear HR4 HK4 h2 hlook
                generalize w4.drewN n6 = w5 at HR5 HK5 ⊢
                have hstep := hidC (drop_skip Hek.out (by rw [hcov]; rfl))
                go_wp2_with fail
                exact ⟨⟨k + 1, by go_num, by omega, by rw [hstep.out], by rw [hstep.out]; exact HR5, HK5⟩, by simp [intOf]; omega⟩
            · have hcov : covB es e = true := by unfold covB; rw [hz, hc1]; rfl
              have h1 := hidC (hcp'.out false)
              rw [hc1] at h1
              clear hq hcp'
              go_wp2_with fail
              refine h1.out.mono ?_
              rintro r w5 ⟨rfl, n5, rfl⟩
              have HR5 : Hid (RowAt (w3.drewN n5) b ((keptK es k).map Ent.l ++ ls.drop (keptK es k).length)) := HR3.out
              have HK5 : Hid (KeptBut (· = b) w1 (w3.drewN n5)) := HK3.out.drewN n5
              clear HR3 HK3 h1 hm3
              generalize w3.drewN n5 = w5 at HR5 HK5 ⊢
              have hstep := hidC (drop_skip Hek.out (by rw [hcov]; rfl))
              go_wp2_with fail
              exact ⟨⟨k + 1, by go_num, by omega, by rw [hstep.out], by rw [hstep.out]; exact HR5, HK5⟩, by simp [intOf]; omega⟩
        · have hkk : keptK es k = es.filter fun e => !covB es e := by
            unfold keptK; rw [List.take_of_length_le (by rw [HE.out.len, Hn.out]; omega)]
          have Hkk := hidC hkk
          clear hkk
          go_wp2_with fail
          go_ret
          refine ⟨by rw [← Hkk.out]; rfl, by rw [← Hkk.out]; exact hR2.out, ?_⟩
          have hbw := HBu.out.below
          have hk2 := hK2.out
          exact ⟨hk2.os.trans hbw.os, hk2.tape.trans hbw.tape, hk2.output.trans hbw.output, Nat.le_trans hbw.size hk2.size, fun i hi hne => (hk2.block i (Nat.lt_of_lt_of_le hi hbw.size) hne).trans (hbw.block i hi)⟩
end Go.Proofs.Qxb6602990a
