/-
  The tree's covers.
-/
import Derived.Test.Qxb6602990aForest
namespace Go.Proofs.Qxb6602990a
open Go.RowKit Pl

theorem ret_bool {a b : Bool} (h : a = b) : Ending.returned (.bool a) = .returned (.bool b) := by rw [h]

set_option maxHeartbeats 400000 in
theorem covers_nil (T : Tr) (q : Bs) (p : List Bs) (a : Nat) (self : Bool) (w : World) (hF : Forest w T) (ha : T.A q p = some a) :
    Calls Try.prog 41 #[ptr a, S [], .bool self] w fun e w' => e = .returned (.bool (T.E q p && !self)) ∧ w' = w := by
  obtain ⟨c0, c1, f0, f1⟩ := hF.cells ha
  cases hE : T.E q p
  all_goals
    rw [hE] at c1
    clear hF
    go_enter Try.func41, Try.ntmps41
    go_wp2_with fail
    go_ret
    exact ⟨by simp, rfl⟩

theorem Forest.look {w : World} {T : Tr} (h : Forest w T) {q : Bs} {p : List Bs} {a : Nat} (ha : T.A q p = some a) (l : Bs) :
    (Instr.lookup 51 (.map (T.B q p)) (S l) false).run Try.prog w = .ok (ptrO (T.A q (l :: p))) w := by
  cases hB : T.B q p with
  | none => rw [h.nomap q p a ha hB l]; exact run_look_nil w l
  | some r => exact run_look (h.map q p a r ha hB) l

theorem Forest.look_some {w : World} {T : Tr} (h : Forest w T) {q : Bs} {p : List Bs} {a : Nat} (ha : T.A q p = some a) {l : Bs} {b : Nat} (hb : T.A q (l :: p) = some b) :
    (Instr.lookup 51 (.map (T.B q p)) (S l) false).run Try.prog w = .ok (ptr b) w := by
  have := h.look ha l; rw [hb] at this; exact this
theorem Forest.look_none {w : World} {T : Tr} (h : Forest w T) {q : Bs} {p : List Bs} {a : Nat} (ha : T.A q p = some a) {l : Bs} (hb : T.A q (l :: p) = none) :
    (Instr.lookup 51 (.map (T.B q p)) (S l) false).run Try.prog w = .ok (.pointer none) w := by
  have := h.look ha l; rw [hb] at this; exact this

theorem ReprT.some {T : Tr} {q : Bs} {L : List (List Bs)} (h : ReprT T q L) {t : Bs} {p : List Bs} {b : Nat} (hb : T.A q (t :: p) = some b) : (sub t (rem p L)).isEmpty = false := by
  have := (h (t :: p)).1
  rw [hb] at this
  simpa [rem] using this
theorem ReprT.none {T : Tr} {q : Bs} {L : List (List Bs)} (h : ReprT T q L) {t : Bs} {p : List Bs} (hb : T.A q (t :: p) = none) : (sub t (rem p L)).isEmpty = true := by
  have := (h (t :: p)).1
  rw [hb] at this
  simpa [rem] using this

theorem joinD_empty {y : Bs} {r : List Bs} (h : GoodS (y :: r)) : List.isEmpty (joinD (y :: r)) = false := by
  have := joinD_ne (r := r) h.1.1
  cases hj : joinD (y :: r) with
  | nil => exact absurd hj this
  | cons a l => rfl
theorem join_gt {y : Bs} {r : List Bs} (h : GoodS (y :: r)) : (joinD (y :: r) == [62]) = ((y :: r) == [[62]]) := by
  rw [Bool.eq_iff_iff]
  simp only [beq_iff_eq]
  constructor
  · intro e
    cases r with
    | nil => rw [joinD_one] at e; rw [e]
    | cons u r =>
      rw [joinD_cons _ (by simp)] at e
      have hl := congrArg List.length e
      have : 0 < y.length := List.length_pos_iff.2 h.1.1
      simp at hl
      omega
  · intro e; rw [e]; rfl

/-- The subject is the full wildcard, and counts for itself alone. -/
theorem covers_gt_self (T : Tr) (q : Bs) (p : List Bs) (a b : Nat) (w : World) (m : Int) (hF : Forest w T) (ha : T.A q p = some a) (hb : T.A q ([62] :: p) = some b) (hm : w.cell? ⟨0, 0, none⟩ = some (.int .i64 m)) :
    Calls Try.prog 41 #[ptr a, S [62], .bool true] w fun e w' => e = .returned (.bool false) ∧ ∃ n, w' = w.drewN n := by
  obtain ⟨c0, c1, f0, f1⟩ := hF.cells ha
  have hl := hF.look_some ha hb
  clear hF
  go_enter Try.func41, Try.ntmps41
  go_wp2_with fail
  refine (cut_tok [62] [] ⟨by simp, by decide⟩ m _ (by decide) hm).mono ?_
  rintro e w' ⟨rfl, n, rfl⟩
  go_wp2_with fail
  go_ret
  exact ⟨rfl, n, rfl⟩

theorem covers_gt (T : Tr) (q : Bs) (y : Bs) (r p : List Bs) (a b : Nat) (self : Bool) (w : World) (hG : GoodS (y :: r)) (hF : Forest w T) (ha : T.A q p = some a) (hb : T.A q ([62] :: p) = some b)
    (hs : (self && ((y :: r) == [[62]])) = false) :
    Calls Try.prog 41 #[ptr a, S (joinD (y :: r)), .bool self] w fun e w' => e = .returned (.bool true) ∧ w' = w := by
  obtain ⟨c0, c1, f0, f1⟩ := hF.cells ha
  have hl := hF.look_some ha hb
  clear hF
  have he := joinD_empty hG
  have hj := join_gt hG
  cases self
  · clear hj hs
    go_enter Try.func41, Try.ntmps41
    go_wp2_with fail
    go_ret
    exact ⟨rfl, rfl⟩
  · rw [Bool.true_and] at hs
    rw [hs] at hj
    clear hs
    go_enter Try.func41, Try.ntmps41
    go_wp2_with fail
    go_ret
    exact ⟨rfl, rfl⟩

/-- The subject is the full wildcard, and the node has none. -/
theorem covers_gt_none (T : Tr) (q : Bs) (p : List Bs) (a : Nat) (self : Bool) (w : World) (m : Int) (hF : Forest w T) (ha : T.A q p = some a) (hb : T.A q ([62] :: p) = none) (hm : w.cell? ⟨0, 0, none⟩ = some (.int .i64 m)) :
    Calls Try.prog 41 #[ptr a, S [62], .bool self] w fun e w' => e = .returned (.bool false) ∧ ∃ n, w' = w.drewN n := by
  obtain ⟨c0, c1, f0, f1⟩ := hF.cells ha
  have hl := hF.look_none ha hb
  clear hF
  go_enter Try.func41, Try.ntmps41
  go_wp2_with fail
  refine (cut_tok [62] [] ⟨by simp, by decide⟩ m _ (by decide) hm).mono ?_
  rintro e w' ⟨rfl, n, rfl⟩
  go_wp2_with fail
  go_ret
  exact ⟨rfl, n, rfl⟩

/-- What a call of itself must give. -/
def Rec (T : Tr) (L : List (List Bs)) (q : Bs) (r : List Bs) (m : Int) : Prop :=
  ∀ (p : List Bs) (a : Nat) (self : Bool) (w : World), Forest w T → T.A q p = some a → w.cell? ⟨0, 0, none⟩ = some (.int .i64 m) →
    Calls Try.prog 41 #[ptr a, S (joinD r), .bool self] w fun e w' => e = .returned (.bool (covL r (rem p L) self)) ∧ ∃ n, w' = w.drewN n

theorem joinD_len (y : Bs) (r : List Bs) : (joinD r).length ≤ (joinD (y :: r)).length := by
  cases r with
  | nil => simp [joinD]
  | cons u r => rw [joinD_cons y (by simp)]; simp; omega

theorem hidC {p : Prop} (h : p) : Hid p := h

/-- What the rest of the function makes of the answers. -/
def stepB (h42 c42 y42 hy cy : Bool) : Bool := if h42 && c42 then true else if y42 then false else hy && cy

set_option maxHeartbeats 1000000 in
theorem covers_step (T : Tr) (L : List (List Bs)) (q : Bs) (y : Bs) (r p : List Bs) (a : Nat) (self : Bool) (w : World) (m : Int) (hG : GoodS (y :: r)) (hF : Forest w T) (ha : T.A q p = some a) (hb : T.A q ([62] :: p) = none)
    (hm : w.cell? ⟨0, 0, none⟩ = some (.int .i64 m)) (hs : (joinD (y :: r)).length < 4294967281) (hy : y ≠ [62]) (ih : Rec T L q r m) :
    Calls Try.prog 41 #[ptr a, S (joinD (y :: r)), .bool self] w fun e w' => e = .returned (.bool (
      stepB (T.A q ([42] :: p)).isSome (covL r (rem ([42] :: p) L) (self && (y == [42]))) (y == [42]) (T.A q (y :: p)).isSome (covL r (rem (y :: p) L) self))) ∧ ∃ n, w' = w.drewN n := by
  obtain ⟨c0, c1, f0, f1⟩ := hF.cells ha
  have hl := hF.look_none ha hb
  have he := joinD_empty hG
  have hy' : (y == [62]) = false := by simpa using hy
  clear hy
  have HF := hF
  clear hF
  go_enter Try.func41, Try.ntmps41
  go_wp2_with fail
  refine (cut_tok y r hG.1 m _ hs hm).mono ?_
  rintro e w' ⟨rfl, n, rfl⟩
  have hFn := HF.drewN n
  cases h42 : T.A q ([42] :: p) with
  | none =>
    have hl2 := hFn.look_none ha h42
    cases hy2 : y == [42] with
    | true =>
      clear HF hFn ih
      go_wp2_with fail
      all_goals (go_ret; exact ⟨ret_bool (by simp [stepB, h42, hy2]), _, rfl⟩)
    | false =>
      cases hy3 : T.A q (y :: p) with
      | none =>
        have hl3 := hFn.look_none ha hy3
        clear HF hFn ih
        go_wp2_with fail
        all_goals (go_ret; exact ⟨ret_bool (by simp [stepB, h42, hy2, hy3]), _, rfl⟩)
      | some d =>
        have hl3 := hFn.look_some ha hy3
        have hi := ih (y :: p) d self (w.drewN n) hFn hy3 hm
        have hi' : Hid (Calls Try.prog 41 #[ptr d, S (joinD r), .bool self] (w.drewN n) fun e w' => e = .returned (.bool (covL r (rem (y :: p) L) self)) ∧ ∃ k, w' = (w.drewN n).drewN k) := hi
        clear HF hFn ih hi
        go_wp2_with fail
        refine hi'.out.mono ?_
        rintro e w' ⟨rfl, k, rfl⟩
        go_wp2_with fail
        all_goals (go_ret; exact ⟨ret_bool (by simp [stepB, h42, hy2, hy3]), _, rfl⟩)
  | some c =>
    have hl2 := hFn.look_some ha h42
    cases hy2 : y == [42] with
    | true =>
      cases self
      · have hi := ih ([42] :: p) c false (w.drewN n) hFn h42 hm
        cases hc : covL r (rem ([42] :: p) L) false
        all_goals
          rw [hc] at hi
          have hi' := hidC hi
          clear HF hFn ih hi
          go_wp2_with fail
          refine hi'.out.mono ?_
          rintro e w' ⟨rfl, k, rfl⟩
          go_wp2_with fail
          all_goals (go_ret; exact ⟨ret_bool (by simp [stepB, h42, hy2, hc]), _, rfl⟩)
      · have hi := ih ([42] :: p) c true (w.drewN n) hFn h42 hm
        cases hc : covL r (rem ([42] :: p) L) true
        all_goals
          rw [hc] at hi
          have hi' := hidC hi
          clear HF hFn ih hi
          go_wp2_with fail
          refine hi'.out.mono ?_
          rintro e w' ⟨rfl, k, rfl⟩
          go_wp2_with fail
          all_goals (go_ret; exact ⟨ret_bool (by simp [stepB, h42, hy2, hc]), _, rfl⟩)
    | false =>
      have hi := ih ([42] :: p) c false (w.drewN n) hFn h42 hm
      cases hc : covL r (rem ([42] :: p) L) false
      · rw [hc] at hi
        have hi' := hidC hi
        cases hy3 : T.A q (y :: p) with
        | none =>
          have hl3 : ∀ j, (Instr.lookup 51 (.map (T.B q p)) (S y) false).run Try.prog (w.drewN j) = .ok (.pointer none) (w.drewN j) := fun j => (HF.drewN j).look_none ha hy3
          clear HF hFn ih hi
          cases self
          all_goals
            go_wp2_with fail
            refine hi'.out.mono ?_
            rintro e w' ⟨rfl, k, rfl⟩
            go_wp2_with fail
            all_goals (go_ret; exact ⟨ret_bool (by simp [stepB, h42, hy2, hy3, hc]), _, rfl⟩)
        | some d =>
          have hl3 : ∀ j, (Instr.lookup 51 (.map (T.B q p)) (S y) false).run Try.prog (w.drewN j) = .ok (ptr d) (w.drewN j) := fun j => (HF.drewN j).look_some ha hy3
          have hj := fun j => hidC (ih (y :: p) d self (w.drewN j) (HF.drewN j) hy3 hm)
          clear HF hFn ih hi
          cases self
          all_goals
            go_wp2_with fail
            refine hi'.out.mono ?_
            rintro e w' ⟨rfl, k, rfl⟩
            go_wp2_with fail
            refine (hj _).out.mono ?_
            rintro e w' ⟨rfl, k2, rfl⟩
            go_wp2_with fail
            all_goals (go_ret; exact ⟨ret_bool (by simp [stepB, h42, hy2, hy3, hc]), _, rfl⟩)
      · rw [hc] at hi
        have hi' := hidC hi
        clear HF hi hFn ih
        cases self
        all_goals
          go_wp2_with fail
          refine hi'.out.mono ?_
          rintro e w' ⟨rfl, k, rfl⟩
          go_wp2_with fail
          all_goals (go_ret; exact ⟨ret_bool (by simp [stepB, h42, hy2, hc]), _, rfl⟩)

theorem covers_any (T : Tr) (q : Bs) (L : List (List Bs)) (hR : ReprT T q L) (m : Int) : ∀ (ys : List Bs), GoodS ys → (joinD ys).length < 4294967281 → Rec T L q ys m
  | [], _, _ => fun p a self w hF ha hm => by
    refine (covers_nil T q p a self w hF ha).mono ?_
    rintro e w' ⟨rfl, rfl⟩
    exact ⟨by rw [(hR p).2 (by rw [ha]; rfl)]; rfl, 0, rfl⟩
  | y :: r, hG, hs => fun p a self w hF ha hm => by
    have ih := covers_any T q L hR m r hG.2.2 (Nat.lt_of_le_of_lt (joinD_len y r) hs)
    cases h62 : T.A q ([62] :: p) with
    | some b =>
      have e62 := hR.some h62
      cases hs2 : (self && ((y :: r) == [[62]])) with
      | false =>
        refine (covers_gt T q y r p a b self w hG hF ha h62 hs2).mono ?_
        rintro e w' ⟨rfl, rfl⟩
        exact ⟨ret_bool (by unfold covL; rw [e62, hs2]; rfl), 0, rfl⟩
      | true =>
        have hs3 := hs2
        simp only [Bool.and_eq_true, beq_iff_eq] at hs3
        obtain ⟨rfl, hyr⟩ := hs3
        injection hyr with h1 h2
        subst h1; subst h2
        refine (covers_gt_self T q p a b w m hF ha h62 hm).mono ?_
        rintro e w' ⟨rfl, k, rfl⟩
        exact ⟨ret_bool (by simp [covL]), k, rfl⟩
    | none =>
      have e62 := hR.none h62
      by_cases hy : y = [62]
      · subst hy
        have hr : r = [] := hG.2.1 rfl
        subst hr
        refine (covers_gt_none T q p a self w m hF ha h62 hm).mono ?_
        rintro e w' ⟨rfl, k, rfl⟩
        exact ⟨ret_bool (by simp [covL, e62]), k, rfl⟩
      · refine (covers_step T L q y r p a self w m hG hF ha h62 hm hs hy ih).mono ?_
        rintro e w' ⟨rfl, hk⟩
        refine ⟨ret_bool ?_, hk⟩
        have h1 := (hR ([42] :: p)).1
        have h2 := (hR (y :: p)).1
        simp only [List.isEmpty_cons, Bool.false_or] at h1 h2
        rw [h1, h2]
        have hy' : (y == [62]) = false := by simpa using hy
        simp only [stepB, covL, e62, hy', rem, Bool.not_true, Bool.false_and, Bool.false_eq_true, if_false]
        rfl
end Go.Proofs.Qxb6602990a
