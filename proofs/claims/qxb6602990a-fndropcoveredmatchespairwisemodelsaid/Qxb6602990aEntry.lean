/-
  Entries: a subject and a queue group, cut at the first blank.
-/
import Derived.Test.Qxb6602990aTreeOf
import Derived.Deep.QuietTactic
import Derived.BigQuiet
namespace Go.Proofs.Qxb6602990a
open Go.RowKit Pl Go.PlainAid

def entS (l : Bs) : Bs := (Lib.cut l [32]).1
def entQ (l : Bs) : Bs := (Lib.cut l [32]).2.1

theorem ent_none {l : Bs} (h : 32 ∉ l) : entS l = l ∧ entQ l = [] := by
  unfold entS entQ; rw [cut_none 32 l h]; exact ⟨rfl, rfl⟩
theorem ent_at {l : Bs} {k : Nat} (hk : k < l.length) (he : l[k] = 32) (hno : ∀ j (hj : j < l.length), j < k → l[j] ≠ 32) : entS l = l.take k ∧ entQ l = l.drop (k + 1) := by
  have hsplit : l = l.take k ++ 32 :: l.drop (k + 1) := by
    rw [← he, ← List.drop_eq_getElem_cons hk, List.take_append_drop]
  have hnot : (32 : UInt8) ∉ l.take k := by
    intro hm
    obtain ⟨j, hj, e⟩ := List.getElem_of_mem hm
    rw [List.length_take] at hj
    rw [List.getElem_take] at e
    exact hno j (by omega) (by omega) e
  have hc := cut_at 32 (l.take k) (l.drop (k + 1)) hnot
  rw [← hsplit] at hc
  unfold entS entQ
  rw [hc]
  exact ⟨rfl, rfl⟩

theorem ent_len (l : Bs) : (entS l).length ≤ l.length ∧ (entQ l).length ≤ l.length := by
  by_cases h : (32 : UInt8) ∈ l
  · obtain ⟨s, t, rfl, hs⟩ := List.eq_append_cons_of_mem h
    have hc := cut_at 32 s t hs
    unfold entS entQ
    rw [hc]
    simp
    omega
  · rw [(ent_none h).1, (ent_none h).2]; simp

theorem ext_list (s : ByteArray) (a b : Nat) (l : Bs) (h : ((s.data.toList.drop a).take (b - a)) = l) : s.extract a b = ⟨l.toArray⟩ := by
  apply Go.WideShapes.bytes_inj
  rw [ByteArray.data_extract]
  simp only [Array.toList_extract, h]

theorem ret_two {a b c d : Value} (h1 : a = c) (h2 : b = d) : Ending.returned (.tuple #[a, b]) = .returned (.tuple #[c, d]) := by rw [h1, h2]

set_option maxHeartbeats 400000 in
theorem split_any (s : ByteArray) (w : World) (hs : s.size ≤ 1048576) :
    Calls Try.prog 36 #[.string s] w fun e w' => e = .returned (.tuple #[S (entS s.data.toList), S (entQ s.data.toList)]) ∧ ∃ n, w' = w.drewN n := by
  have hb := get_bt s
  have Hsz := hidC (size_list s)
  go_enter Try.func36, Try.ntmps36
  go_wp2
  go_loop [4] (fun i => ∃ k : Nat, i = .int .i64 k ∧ k ≤ s.size ∧ Hid (∀ j (hj : j < s.data.toList.length), j < k → s.data.toList[j] ≠ 32)) (fun i => s.size - (intOf i).toNat)
  case atStart => exact ⟨0, rfl, Nat.zero_le _, fun j _ hj => absurd hj (Nat.not_lt_zero _)⟩
  case round =>
    obtain ⟨k, rfl, hk, hno⟩ := hrel
    by_cases hlt : k < s.size
    · have hlt' : k < s.data.toList.length := by rw [Hsz.out]; exact hlt
      by_cases hc : bt s k = 32
      · have hc' : (bt s k == 32) = true := by simp [hc]
        have hfin := hidC (ent_at hlt' ((byte_is hlt' 32).2 hc) hno.out)
        have hE1 : Hid (s.extract 0 k = ⟨(entS s.data.toList).toArray⟩) := ext_list s 0 k _ (by rw [hfin.out.1]; simp)
        have hE2 : Hid (s.extract (k + 1) s.size = ⟨(entQ s.data.toList).toArray⟩) := ext_list s (k + 1) s.size _ (by rw [hfin.out.2, List.take_of_length_le (by rw [List.length_drop]; have := Hsz.out; omega)])
        clear hc hlt'
        go_wp2
        go_quiet (fail)
        go_wp2
        go_ret2
        exact ⟨ret_two (congrArg Value.string hE1.out) (congrArg Value.string hE2.out), _, rfl⟩
      · have hc' : (bt s k == 32) = false := by simp [hc]
        have hn : Hid (∀ j (hj : j < s.data.toList.length), j < k + 1 → s.data.toList[j] ≠ 32) := by
          intro j hj hjk e
          by_cases ejk : j = k
          · subst ejk; exact hc ((byte_is hj 32).1 e)
          · exact hno.out j hj (by omega) e
        clear hc hlt' hno
        go_wp2
        exact ⟨⟨k + 1, by go_num, by omega, hn⟩, by simp [intOf]; omega⟩
    · have hfin : Hid (entS s.data.toList = s.data.toList ∧ entQ s.data.toList = []) := ent_none (fun hm => by
        obtain ⟨j, hj, e⟩ := List.getElem_of_mem hm
        exact hno.out j hj (by have := Hsz.out; omega) e)
      clear hno
      go_wp2
      go_ret2
      have hE1 : s = ⟨(entS s.data.toList).toArray⟩ := by rw [hfin.out.1]
      have hE2 : (⟨#[]⟩ : ByteArray) = ⟨(entQ s.data.toList).toArray⟩ := by rw [hfin.out.2]
      exact ⟨ret_two (congrArg Value.string hE1) (congrArg Value.string hE2), 0, rfl⟩

/-- The entries' subjects are valid. -/
theorem entries_any (p : Option Addr) (n c : Nat) (ls : List Bs) (w : World) (h : SRow w p n c ls) (hn : n ≤ 1048576) (hall : ∀ l ∈ ls, l.length ≤ 1048576) :
    Calls Try.prog 13 #[.slice p n c] w fun e w' => e = .returned (.bool (ls.all fun l => vf [] (entS l))) ∧ ∃ m, w' = w.drewN m := by
  have H := hidC h
  have Hlen := hidC h.len
  have Hall := hidC hall
  clear h hall
  go_enter Try.func13, Try.ntmps13
  go_wp2_with fail
  go_loopw [3] (fun i wr => ∃ k m : Nat, i = .int .i64 k ∧ wr = w.drewN m ∧ k ≤ n ∧ Hid (∀ j, j < k → vf [] (entS (ls.getD j [])) = true)) (fun i _ => n - (intOf i).toNat)
  case atStart => exact ⟨0, 0, rfl, rfl, Nat.zero_le _, fun j hj => absurd hj (Nat.not_lt_zero _)⟩
  case round =>
    obtain ⟨k, m, rfl, rfl, hk, hv⟩ := hrel
    by_cases hlt : k < n
    · obtain ⟨ad, rfl, hc⟩ := H.out.at hlt
      have hmem := getD_mem (ls := ls) (k := k) (by have := Hlen.out; omega)
      have hl := Hall.out _ hmem
      have Hmem := hidC hmem
      clear hmem
      generalize hs : ls.getD k [] = s at hc hl Hmem
      have Hs := hidC hs
      clear hs
      have hsp := hidC (fun W => split_any ⟨s.toArray⟩ W (by simpa [ByteArray.size] using hl))
      have hval := hidC (fun W => valid_any ⟨(entS s).toArray⟩ W (by have := (ent_len s).1; simp [ByteArray.size]; omega))
      cases hvs : vf [] (entS s)
      · have hfin : Hid (false = ls.all fun l => vf [] (entS l)) := by
          show _ = _
          cases hq : ls.all fun l => vf [] (entS l)
          · rfl
          · rw [List.all_eq_true] at hq; have := hq s Hmem.out; rw [hvs] at this; cases this
        go_wp2_with fail
        refine (hsp.out _).mono ?_
        rintro e w1 ⟨rfl, m1, rfl⟩
        go_wp2_with fail
        refine (hval.out _).mono ?_
        rintro e w2 ⟨rfl, rfl⟩
        go_wp2_with fail
        go_ret
        exact ⟨ret_bool hfin.out, _, rfl⟩
      · go_wp2_with fail
        refine (hsp.out _).mono ?_
        rintro e w1 ⟨rfl, m1, rfl⟩
        go_wp2_with fail
        refine (hval.out _).mono ?_
        rintro e w2 ⟨rfl, rfl⟩
        go_wp2_with fail
        refine ⟨⟨k + 1, _, by go_num, rfl, by omega, ?_⟩, by simp [intOf]; omega⟩
        intro j hj
        by_cases e : j = k
        · rw [e, Hs.out]; exact hvs
        · exact hv.out j (by omega)
    · have hfin : Hid (true = ls.all fun l => vf [] (entS l)) := by
        show _ = _
        rw [eq_comm, List.all_eq_true]
        intro l hl
        obtain ⟨j, hj, rfl⟩ := List.getElem_of_mem hl
        have := hv.out j (by have := Hlen.out; omega)
        rw [getD_at hj] at this
        exact this
      go_wp2_with fail
      go_ret
      exact ⟨ret_bool hfin.out, _, rfl⟩

/-- An entry: its subject's tokens, its queue group. -/
structure Ent where
  x : List Bs
  q : Bs
  l : Bs

def Ent.ok (e : Ent) : Prop := entS e.l = joinD e.x ∧ entQ e.l = e.q ∧ GoodS e.x ∧ e.x ≠ []

/-- Does entry f allow entry e? -/
def allowsB (f e : Ent) : Bool := !((f.x == e.x) && (f.q == e.q)) && (f.q.isEmpty || (f.q == e.q)) && pc f.x e.x

set_option maxHeartbeats 1000000 in
theorem allows_any (f e : Ent) (w : World) (hf : f.ok) (he : e.ok) (hfl : f.l.length ≤ 1048576) (hel : e.l.length ≤ 1048576) :
    Calls Try.prog 20 #[S f.l, S e.l] w fun r w' => r = .returned (.bool (allowsB f e)) ∧ ∃ m, w' = w.drewN m := by
  have h1 := hidC (fun W => split_any ⟨f.l.toArray⟩ W (by simpa [ByteArray.size] using hfl))
  have h2 := hidC (fun W => split_any ⟨e.l.toArray⟩ W (by simpa [ByteArray.size] using hel))
  have lf := (ent_len f.l).1
  have le := (ent_len e.l).1
  rw [hf.1] at lf
  rw [he.1] at le
  have h3 := hidC (fun W => cov_any ⟨(joinD f.x).toArray⟩ ⟨(joinD e.x).toArray⟩ f.x e.x W (by simp [ByteArray.size]; omega) (by simp [ByteArray.size]; omega) hf.2.2.1 he.2.2.1 hf.2.2.2 he.2.2.2 (by simp) (by simp))
  have hxe : (joinD f.x == joinD e.x) = (f.x == e.x) := by
    rw [Bool.eq_iff_iff, beq_iff_eq, beq_iff_eq]
    exact ⟨joinD_inj _ _ hf.2.2.1 he.2.2.1, fun h => by rw [h]⟩
  have Hf := hidC hf
  have He := hidC he
  have h1' : Hid (∀ W, Calls Try.prog 36 #[S f.l] W fun r w' => r = .returned (.tuple #[S (joinD f.x), S f.q]) ∧ ∃ n, w' = W.drewN n) := by
    intro W; have := h1.out W; simp only [hf.1, hf.2.1] at this; exact this
  have h2' : Hid (∀ W, Calls Try.prog 36 #[S e.l] W fun r w' => r = .returned (.tuple #[S (joinD e.x), S e.q]) ∧ ∃ n, w' = W.drewN n) := by
    intro W; have := h2.out W; simp only [he.1, he.2.1] at this; exact this
  clear hf he h1 h2
  go_enter Try.func20, Try.ntmps20
  go_wp2_with fail
  refine (h1'.out _).mono ?_
  rintro r w1 ⟨rfl, m1, rfl⟩
  go_wp2_with fail
  refine (h2'.out _).mono ?_
  rintro r w2 ⟨rfl, m2, rfl⟩
  cases hx : f.x == e.x
  all_goals
    rw [hx] at hxe
    cases hq : f.q == e.q
    all_goals cases hz : List.isEmpty f.q
    all_goals
      go_wp2_with (first | (go_at_call 30; refine (h3.out _).mono ?_; rintro r w3 ⟨rfl, rfl⟩))
      all_goals (go_ret; exact ⟨ret_bool (by simp [allowsB, hx, hq, hz]), _, rfl⟩)
end Go.Proofs.Qxb6602990a
