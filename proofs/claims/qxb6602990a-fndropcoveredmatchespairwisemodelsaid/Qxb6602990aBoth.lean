/-
  What the two laws of dropCovered share.
-/
import Derived.Test.Qxb6602990aDrop
import Derived.Deep.QuietTactic
import Derived.BigQuiet
namespace Go.Proofs.Qxb6602990a
open Go.RowKit Pl

/-- The entries that stay. -/
def keep (es : List Ent) : List Ent := es.filter fun e => !covB es e

theorem filt_lt {α : Type} {p q : α → Bool} : ∀ {L : List α}, (∀ x ∈ L, p x = true → q x = true) → (∃ g ∈ L, q g = true ∧ p g = false) → (L.filter p).length < (L.filter q).length
  | [], _, h => by obtain ⟨g, hg, _⟩ := h; cases hg
  | a :: L, hm, ⟨g, hg, h1, h2⟩ => by
    have hm' : ∀ x ∈ L, p x = true → q x = true := fun x hx => hm x (List.mem_cons_of_mem _ hx)
    have hle : ∀ {M : List α}, (∀ x ∈ M, p x = true → q x = true) → (M.filter p).length ≤ (M.filter q).length := by
      intro M
      induction M with
      | nil => intro _; exact Nat.le_refl _
      | cons b M ih =>
        intro hM
        have hi := ih (fun x hx => hM x (List.mem_cons_of_mem _ hx))
        have hb := hM b List.mem_cons_self
        cases hpb : p b
        · cases hqb : q b <;> simp [hpb, hqb] <;> omega
        · simp [hpb, hb hpb]; omega
    rcases List.mem_cons.1 hg with rfl | hg
    · have := hle hm'
      simp [h1, h2]; omega
    · have hi := filt_lt (L := L) hm' ⟨g, hg, h1, h2⟩
      have hb := hm a List.mem_cons_self
      cases hpa : p a
      · cases hqa : q a <;> simp [hpa, hqa] <;> omega
      · simp [hpa, hb hpa]; omega

theorem allows_irrefl (e : Ent) : allowsB e e = false := by simp [allowsB]

theorem allows_trans {f g e : Ent} (hf : GoodS f.x) (hg : GoodS g.x) (h1 : allowsB f g = true) (h2 : allowsB g e = true) : allowsB f e = true := by
  unfold allowsB at *
  simp only [Bool.and_eq_true, Bool.or_eq_true, Bool.not_eq_true', Bool.and_eq_false_imp, beq_iff_eq, beq_eq_false_iff_ne, ne_eq, List.isEmpty_iff] at *
  obtain ⟨⟨a1, a2⟩, a3⟩ := h1
  obtain ⟨⟨b1, b2⟩, b3⟩ := h2
  refine ⟨⟨fun hx hq => ?_, ?_⟩, pc_trans _ _ _ a3 b3⟩
  · rw [← hx] at b3
    have hxx := pc_anti _ _ hf hg a3 b3
    apply a1 hxx
    rcases a2 with a2 | a2
    · rcases b2 with b2 | b2
      · rw [a2, b2]
      · rw [b2, hq]
    · exact a2
  · rcases a2 with a2 | a2
    · exact .inl a2
    · rcases b2 with b2 | b2
      · exact .inl (a2.trans b2)
      · exact .inr (a2.trans b2)

theorem same_ent {f g : Ent} (hf : f.ok) (hg : g.ok) (h : f.l = g.l) : f.x = g.x ∧ f.q = g.q := by
  refine ⟨joinD_inj _ _ hf.2.2.1 hg.2.2.1 ?_, ?_⟩
  · rw [← hf.1, ← hg.1, h]
  · rw [← hf.2.1, ← hg.2.1, h]

/-- Every entry stays, or one that stays allows it. -/
theorem keep_all (es : List Ent) (hok : ∀ e ∈ es, e.ok) : ∀ (n : Nat) (e : Ent), e ∈ es → (es.filter fun f => allowsB f e).length = n → ∃ f ∈ keep es, (f.l == e.l || allowsB f e) = true := by
  intro n
  induction n using Nat.strongRecOn with
  | _ n ih =>
    intro e he hn
    cases hc : covB es e
    · exact ⟨e, List.mem_filter.2 ⟨he, by rw [hc]; rfl⟩, by simp⟩
    · rw [covB_any, List.any_eq_true] at hc
      obtain ⟨g, hg, hge⟩ := hc
      have hlt : (es.filter fun f => allowsB f g).length < (es.filter fun f => allowsB f e).length :=
        filt_lt (fun x hx h => allows_trans (hok x hx).2.2.1 (hok g hg).2.2.1 h hge) ⟨g, hg, hge, allows_irrefl g⟩
      obtain ⟨f, hf, h⟩ := ih _ (by omega) g hg rfl
      refine ⟨f, hf, ?_⟩
      have hfe := (List.mem_filter.1 hf).1
      rw [Bool.or_eq_true] at h ⊢
      right
      rcases h with h | h
      · obtain ⟨h1, h2⟩ := same_ent (hok f hfe) (hok g hg) (by simpa using h)
        unfold allowsB at hge ⊢
        rw [h1, h2]; exact hge
      · exact allows_trans (hok f hfe).2.2.1 (hok g hg).2.2.1 h hge

theorem keep_le (es : List Ent) : (keep es).length ≤ es.length := List.length_filter_le _ _

theorem drop_nil (W : World) : Calls Try.prog 37 #[.slice none 0 0] W fun e w' => e = .returned (.slice none 0 0) ∧ Below W.heap.size W w' := by
  have hmm := @run_makeMap Try.prog
  have hB : Hid (Below W.heap.size W ((W.alloc node0).alloc (.map #[] 0))) := ((Below.refl _ _).alloc (Nat.le_refl _) _).alloc (by simp) _
  go_enter Try.func37, Try.ntmps37
  go_wp2_with fail
  go_loopw [23] (fun i wr => i = .int .i64 0 ∧ wr = (W.alloc node0).alloc (.map #[] 0)) (fun _ _ => 0)
  case atStart => exact ⟨rfl, rfl⟩
  case round =>
    obtain ⟨rfl, rfl⟩ := hrel
    generalize (W.alloc node0).alloc (.map #[] 0) = w1 at hB ⊢
    go_wp2_with fail
    go_loopw [11, 54] (fun out i wr => out = .slice none 0 0 ∧ i = .int .i64 0 ∧ wr = w1) (fun _ _ _ => 0)
    case atStart => exact ⟨rfl, rfl, rfl⟩
    case round =>
      obtain ⟨rfl, rfl, rfl⟩ := hrel
      go_wp2_with fail
      go_ret
      exact ⟨rfl, hB.out⟩

theorem row_pre {w : World} {b n : Nat} {A B : List Bs} (h : RowAt w b (A ++ B)) (hn : A.length ≤ n) : SRow w (some ⟨b, 0, none⟩) A.length n A := by
  refine ⟨rfl, hn, .inr ⟨_, rfl, fun i hi => ?_⟩⟩
  have := rowAt_cell h (i := i) (by simp; omega)
  rw [Go.WideShapes.add_plain, Nat.zero_add, this]
  simp [List.getElem?_append_left hi]

/-- Behind ZZDropCovered: what the slice shows, and what its cells hold. -/
def Dropped (w w' : World) (p : Option Addr) (n : Nat) (ls : List Bs) (es : List Ent) : Prop :=
  SRow w' p n n ((keep es).map Ent.l ++ ls.drop (keep es).length) ∧ SRow w' p (keep es).length n ((keep es).map Ent.l) ∧ Below w.heap.size w w'

theorem dropped_of (w w2 : World) (p : Option Addr) (n : Nat) (ls : List Bs) (es : List Ent) (m : Int) (h : Copied w w2 p n ls) (hn2 : n ≤ 65536) (h0 : 0 < w.heap.size)
    (hE : EntsOf ls es) (hall : ∀ l ∈ ls, l.length ≤ 1048576) (hm : w.cell? ⟨0, 0, none⟩ = some (.int .i64 m)) :
    Calls Try.prog 37 #[.slice p n n] w2 fun e w' => e = .returned (.slice p (keep es).length n) ∧ Dropped w w' p n ls es := by
  obtain ⟨h1, h2, hbe⟩ := h
  have hlen := hE.len
  have hkl := keep_le es
  rcases h2 with ⟨rfl, rfl, rfl⟩ | ⟨rfl, hrow, hsz⟩
  · have hes : es = [] := List.eq_nil_of_length_eq_zero (by omega)
    have hls : ls = [] := List.eq_nil_of_length_eq_zero (by omega)
    subst hes hls
    refine (drop_nil _).mono ?_
    rintro e w' ⟨rfl, hb⟩
    exact ⟨rfl, ⟨rfl, Nat.le_refl _, .inl ⟨rfl, rfl, rfl⟩⟩, ⟨rfl, Nat.le_refl _, .inl ⟨rfl, rfl, rfl⟩⟩, hb⟩
  · refine (drop_any w.heap.size n ls es w2 m hrow h1.symm hn2 (by omega) h0 hE hall ((hbe.cell (p := ⟨0, 0, none⟩) h0).trans hm)).mono ?_
    rintro e w' ⟨rfl, hr, hk⟩
    have hfull : ((keep es).map Ent.l ++ ls.drop (keep es).length).length = n := by simp; omega
    refine ⟨rfl, ?_, ?_, ⟨hk.os.trans hbe.os, hk.tape.trans hbe.tape, hk.output.trans hbe.output, Nat.le_trans hbe.size hk.size, fun i hi => (hk.block i (by omega) (fun e => by have e' : i = w.heap.size := e; omega)).trans (hbe.block i hi)⟩⟩
    · have := row_pre (B := []) (n := n) (by rw [List.append_nil]; exact hr) (Nat.le_of_eq hfull)
      rw [hfull] at this
      exact this
    · have := row_pre (n := n) hr (by simp; exact Nat.le_trans hkl (by omega))
      rw [List.length_map] at this
      exact this

theorem zdrop_all (w w2 : World) (p : Option Addr) (n : Nat) (ls : List Bs) (es : List Ent) (m : Int) (h : Copied w w2 p n ls) (hn2 : n ≤ 65536) (h0 : 0 < w.heap.size)
    (hE : EntsOf ls es) (hall : ∀ l ∈ ls, l.length ≤ 1048576) (hm : w.cell? ⟨0, 0, none⟩ = some (.int .i64 m)) :
    Calls Try.prog 15 #[.slice p n n] w2 fun e w' => e = .returned (.slice p (keep es).length n) ∧ Dropped w w' p n ls es := by
  have HD := hidC (dropped_of w w2 p n ls es m h hn2 h0 hE hall hm)
  clear h hE hall hm
  go_enter Try.func15, Try.ntmps15
  go_wp2_with fail
  refine HD.out.mono ?_
  rintro e w' ⟨rfl, hd⟩
  have Hd := hidC hd
  clear hd HD
  go_wp2_with fail
  go_ret
  exact ⟨rfl, Hd.out⟩

theorem any_step {α : Type} {p : α → Bool} {l : List α} {k : Nat} {x : α} (h : l[k]? = some x) : (l.take (k + 1)).any p = ((l.take k).any p || p x) := by
  rw [take_succ_at h, List.any_append]; simp

set_option maxHeartbeats 1000000 in
theorem inList_any (p : Option Addr) (n i : Nat) (ls : List Bs) (es : List Ent) (e : Ent) (w : World) (h : SRow w p n n ls) (hn : n ≤ 65536) (hE : EntsOf ls es) (hall : ∀ l ∈ ls, l.length ≤ 1048576) (hi : i < n) (he : es[i]? = some e) :
    Calls Try.prog 16 #[.slice p n n, .int .i64 i] w fun r w' => r = .returned (.bool (covB es e)) ∧ ∃ m, w' = w.drewN m := by
  obtain ⟨ad, rfl, _⟩ := h.at hi
  have Hlen := hidC h.len
  obtain ⟨e', he', hel, heok, _⟩ := hE.at (k := i) (by rw [h.len]; exact hi)
  rw [he] at he'; injection he' with he'; subst he'
  have hlen : e.l.length ≤ 1048576 := by rw [← hel]; exact hall _ (getD_mem (by rw [h.len]; exact hi))
  have hci : ∀ m, (w.drewN m).cell? (ad.add i) = some (S e.l) := by
    intro m
    obtain ⟨ad', had, hc⟩ := h.at hi
    injection had with had; subst had
    rw [hel] at hc; exact hc
  have hcov : covB es e = es.any fun f => allowsB f e := covB_any es e
  have H := hidC h
  have HE := hidC hE
  have HA := hidC hall
  have Hok := hidC heok
  have Hcov := hidC hcov
  clear h hE hall hel heok he hcov
  go_enter Try.func16, Try.ntmps16
  go_wp2_with fail
  go_loopw [5] (fun i wr => ∃ k m : Nat, i = .int .i64 k ∧ wr = w.drewN m ∧ k ≤ n ∧ Hid ((es.take k).any (fun f => allowsB f e) = false)) (fun i _ => n - (intOf i).toNat)
  case atStart => exact ⟨0, 0, rfl, rfl, Nat.zero_le _, rfl⟩
  case round =>
    obtain ⟨k, m, rfl, rfl, hk, hv⟩ := hrel
    by_cases hlt : k < n
    · obtain ⟨ad', had, hc0⟩ := H.out.at hlt
      injection had with had; subst had
      obtain ⟨f, hfk, hfl, hfok, hfm⟩ := HE.out.at (k := k) (by rw [Hlen.out]; exact hlt)
      have hfn : f.l.length ≤ 1048576 := by rw [← hfl]; exact HA.out _ (getD_mem (by rw [Hlen.out]; exact hlt))
      rw [hfl] at hc0
      have hc : (w.drewN m).cell? (ad.add k) = some (S f.l) := hc0
      have hci' := hci m
      have hal := hidC (fun W => allows_any f e W hfok Hok.out hfn hlen)
      have hst := hidC (any_step (p := fun f => allowsB f e) hfk)
      have Hfm := hidC hfm
      clear hfk hfl hfok hfm hc0 hci
      obtain ⟨w1, hw1⟩ : ∃ w1, w1 = w.drewN m := ⟨_, rfl⟩
      rw [← hw1] at hc hci' ⊢
      have Hw1 := hidC hw1
      clear hw1
      cases ha : allowsB f e
      · rw [ha] at hal
        go_wp2_with fail
        go_quiet (first | (go_at_call 20; refine Calls.quiet_of (hal.out _)))
        go_wp2_with fail
        exact ⟨⟨k + 1, m + nq, by go_num, by rw [Hw1.out]; exact World.drewN_drewN _ _ _, by omega, by show _ = _; rw [hst.out, ha, hv.out]; rfl⟩, by simp [intOf]; omega⟩
      · have hfin : Hid (true = covB es e) := by
          show _ = _
          rw [Hcov.out, eq_comm, List.any_eq_true]; exact ⟨f, Hfm.out, ha⟩
        rw [ha] at hal
        go_wp2_with fail
        go_quiet (first | (go_at_call 20; refine Calls.quiet_of (hal.out _)))
        go_wp2_with fail
        go_ret
        exact ⟨ret_bool hfin.out, m + nq, by rw [Hw1.out]; exact World.drewN_drewN _ _ _⟩
    · have hfin : Hid (false = covB es e) := by
        show _ = _
        rw [Hcov.out, ← hv.out, List.take_of_length_le (by rw [HE.out.len, Hlen.out]; omega)]
      go_wp2_with fail
      go_ret
      exact ⟨ret_bool hfin.out, _, rfl⟩
end Go.Proofs.Qxb6602990a
