/-
  Plain facts, with no Go in sight: subjects as lists of tokens, the pairwise cover, the cover by a list of subjects.
-/
namespace Go.Proofs.Qxb6602990a.Pl

/-- A string's bytes. -/
abbrev Bs := List UInt8

/-- The tokens joined by dots. -/
def joinD : List Bs → Bs
  | [] => []
  | t :: r => match r with | [] => t | _ :: _ => t ++ 46 :: joinD r

theorem joinD_one (t : Bs) : joinD [t] = t := rfl
theorem joinD_cons (t : Bs) {r : List Bs} (h : r ≠ []) : joinD (t :: r) = t ++ 46 :: joinD r := by
  cases r with
  | nil => exact absurd rfl h
  | cons u r => rfl

def okTok (t : Bs) : Prop := t ≠ [] ∧ 46 ∉ t

/-- No token is empty or holds a dot; the full wildcard stands last alone. -/
def GoodS : List Bs → Prop
  | [] => True
  | t :: r => okTok t ∧ (t = [62] → r = []) ∧ GoodS r

theorem joinD_ne {t : Bs} {r : List Bs} (h : t ≠ []) : joinD (t :: r) ≠ [] := by
  cases r with
  | nil => simpa [joinD] using h
  | cons u r => rw [joinD_cons t (by simp)]; simp

theorem joinD_eq_nil {ts : List Bs} (h : GoodS ts) : joinD ts = [] ↔ ts = [] := by
  cases ts with
  | nil => simp [joinD]
  | cons t r => simp only [reduceCtorEq, iff_false]; exact joinD_ne h.1.1

/-- The law's test of a subject, as its loop goes: what of the token has been read, what is left. -/
def vf : Bs → Bs → Bool
  | cur, [] => !cur.isEmpty
  | cur, c :: r => if c = 46 then (!cur.isEmpty && !(cur == [62])) && vf [] r else vf (cur ++ [c]) r

theorem vf_good : ∀ (l cur : Bs), 46 ∉ cur → vf cur l = true → ∃ ts, ts ≠ [] ∧ GoodS ts ∧ cur ++ l = joinD ts
  | [], cur, h, hv => by
    refine ⟨[cur], by simp, ⟨⟨?_, h⟩, fun _ => rfl, trivial⟩, by simp [joinD]⟩
    intro e; subst e; simp [vf] at hv
  | c :: r, cur, h, hv => by
    unfold vf at hv
    by_cases hc : c = 46
    · subst hc
      simp only [if_true, Bool.and_eq_true, Bool.not_eq_true', beq_eq_false_iff_ne, ne_eq] at hv
      obtain ⟨⟨h1, h2⟩, h3⟩ := hv
      obtain ⟨ts, hne, hg, hj⟩ := vf_good r [] (by simp) h3
      refine ⟨cur :: ts, by simp, ⟨⟨?_, h⟩, fun e => absurd e h2, hg⟩, ?_⟩
      · intro e; subst e; simp at h1
      · rw [joinD_cons _ hne, ← hj]; rfl
    · rw [if_neg hc] at hv
      obtain ⟨ts, hne, hg, hj⟩ := vf_good r (cur ++ [c]) (by simp only [List.mem_append, List.mem_singleton]; rintro (h' | h'); exact h h'; exact hc h'.symm) hv
      exact ⟨ts, hne, hg, by rw [← hj]; simp⟩

theorem vf_nil {l : Bs} (h : vf [] l = true) : ∃ ts, ts ≠ [] ∧ GoodS ts ∧ l = joinD ts := by
  obtain ⟨ts, a, b, c⟩ := vf_good l [] (by simp) h
  exact ⟨ts, a, b, by simpa using c⟩

/-- Does the first subject match all that the second matches? -/
def pc : List Bs → List Bs → Bool
  | [], [] => true
  | [], _ :: _ => false
  | _ :: _, [] => false
  | x :: xs, y :: ys => if x = [62] then true else if y = [62] then false else if x = [42] then pc xs ys else if y = [42] then false else if x = y then pc xs ys else false

theorem pc_refl : ∀ xs : List Bs, pc xs xs = true
  | [] => rfl
  | x :: xs => by
    unfold pc
    have := pc_refl xs
    by_cases h1 : x = [62]
    · simp [h1]
    · by_cases h2 : x = [42]
      · simp [h2, this]
      · simp [h1, h2, this]

theorem pc_anti : ∀ xs ys : List Bs, GoodS xs → GoodS ys → pc xs ys = true → pc ys xs = true → xs = ys
  | [], [], _, _, _, _ => rfl
  | [], _ :: _, _, _, h, _ => by simp [pc] at h
  | _ :: _, [], _, _, h, _ => by simp [pc] at h
  | x :: xs, y :: ys, hx, hy, h1, h2 => by
    have ih := pc_anti xs ys hx.2.2 hy.2.2
    unfold pc at h1 h2
    by_cases a : x = [62]
    · by_cases b : y = [62]
      · rw [hx.2.1 a, hy.2.1 b, a, b]
      · simp [a, b] at h2
    · by_cases b : y = [62]
      · simp [a, b] at h1
      · by_cases c : x = [42]
        · by_cases d : y = [42]
          · simp [c, d] at h1 h2; rw [ih h1 h2, c, d]
          · simp [b, c, d] at h2
        · by_cases d : y = [42]
          · simp [a, c, d] at h1
          · simp [a, b, c, d] at h1 h2
            rw [ih h1.2 h2.2, h1.1]

theorem pc_trans : ∀ xs ys zs : List Bs, pc xs ys = true → pc ys zs = true → pc xs zs = true
  | [], [], _, _, h => h
  | [], _ :: _, _, h, _ => by simp [pc] at h
  | _ :: _, [], _, h, _ => by simp [pc] at h
  | _ :: _, _ :: _, [], _, h => by simp [pc] at h
  | x :: xs, y :: ys, z :: zs, h1, h2 => by
    have ih := pc_trans xs ys zs
    unfold pc at h1 h2 ⊢
    by_cases a : x = [62]
    · simp [a]
    · by_cases b : y = [62]
      · simp [a, b] at h1
      · by_cases c : z = [62]
        · simp [b, c] at h2
        · by_cases d : x = [42]
          · by_cases e : y = [42]
            · simp [d, e, c] at h1 h2 ⊢; exact ih h1 h2
            · by_cases f : z = [42]
              · simp [b, e, f] at h2
              · simp [b, c, d, e, f] at h1 h2 ⊢; exact ih h1 h2.2
          · by_cases e : y = [42]
            · simp [a, d, e] at h1
            · by_cases f : z = [42]
              · simp [b, e, f] at h2
              · simp [a, b, c, d, e, f] at h1 h2 ⊢
                exact ⟨h1.1.trans h2.1, ih h1.2 h2.2⟩

/-! ### A list of subjects, seen from a node of the tree -/

/-- What is left of those whose next token is t. -/
def sub (t : Bs) (L : List (List Bs)) : List (List Bs) := L.filterMap fun x => match x with | [] => none | h :: r => if h = t then some r else none
/-- What is left behind the tokens of p, the last one first. -/
def rem : List Bs → List (List Bs) → List (List Bs)
  | [], L => L
  | t :: p, L => sub t (rem p L)

/-- The tree's answer. -/
def covL : List Bs → List (List Bs) → Bool → Bool
  | [], L, self => L.contains [] && !self
  | y :: ys, L, self =>
    if !(sub [62] L).isEmpty && !(self && (y :: ys == [[62]])) then true
    else if y == [62] then false
    else if !(sub [42] L).isEmpty && covL ys (sub [42] L) (self && (y == [42])) then true
    else if y == [42] then false
    else !(sub y L).isEmpty && covL ys (sub y L) self

theorem mem_sub {t : Bs} {L : List (List Bs)} {r : List Bs} : r ∈ sub t L ↔ t :: r ∈ L := by
  unfold sub
  rw [List.mem_filterMap]
  constructor
  · rintro ⟨x, hx, e⟩
    cases x with
    | nil => simp at e
    | cons h r' =>
      simp only at e
      split at e
      · rename_i ht; cases e; rw [← ht]; exact hx
      · cases e
  · intro h
    exact ⟨t :: r, h, by simp⟩

theorem sub_good {t : Bs} {L : List (List Bs)} (h : ∀ x ∈ L, GoodS x) : ∀ x ∈ sub t L, GoodS x := by
  intro x hx
  exact (h _ (mem_sub.1 hx)).2.2

theorem sub_ne {t : Bs} {L : List (List Bs)} : (sub t L).isEmpty = false ↔ ∃ r, t :: r ∈ L := by
  rw [List.isEmpty_eq_false_iff_exists_mem]
  constructor
  · rintro ⟨r, hr⟩; exact ⟨r, mem_sub.1 hr⟩
  · rintro ⟨r, hr⟩; exact ⟨r, mem_sub.2 hr⟩

/-- Does one of the list, the subject itself left out where 'self' is set, match all that the subject matches? -/
def anyC (ys : List Bs) (L : List (List Bs)) (self : Bool) : Bool := L.any fun x => !(self && (x == ys)) && pc x ys

theorem anyC_iff {ys : List Bs} {L : List (List Bs)} {self : Bool} : anyC ys L self = true ↔ ∃ x ∈ L, ¬ (self = true ∧ x = ys) ∧ pc x ys = true := by
  unfold anyC
  simp only [List.any_eq_true, Bool.and_eq_true, Bool.not_eq_true', Bool.and_eq_false_imp, beq_eq_false_iff_ne, ne_eq]
  constructor
  · rintro ⟨x, hx, h1, h2⟩; exact ⟨x, hx, fun ⟨a, b⟩ => h1 a b, h2⟩
  · rintro ⟨x, hx, h1, h2⟩; exact ⟨x, hx, fun a b => h1 ⟨a, b⟩, h2⟩

theorem covL_any : ∀ (ys : List Bs) (L : List (List Bs)) (self : Bool), GoodS ys → (∀ x ∈ L, GoodS x) → covL ys L self = anyC ys L self
  | [], L, self, _, _ => by
    rw [Bool.eq_iff_iff, anyC_iff]
    simp only [covL, Bool.and_eq_true, List.contains_iff_mem, Bool.not_eq_true']
    constructor
    · rintro ⟨h, hs⟩; exact ⟨[], h, by simp [hs], rfl⟩
    · rintro ⟨x, hx, h1, h2⟩
      cases x with
      | nil => refine ⟨hx, ?_⟩; cases self <;> simp_all
      | cons a r => simp [pc] at h2
  | y :: ys, L, self, hy, hL => by
    rw [Bool.eq_iff_iff, anyC_iff]
    have ihs := covL_any ys (sub [42] L) (self && (y == [42])) hy.2.2 (sub_good hL)
    have ihy := covL_any ys (sub y L) self hy.2.2 (sub_good hL)
    unfold covL
    rw [ihs, ihy]
    by_cases g : (!(sub [62] L).isEmpty && !(self && (y :: ys == [[62]]))) = true
    · rw [if_pos g]
      refine iff_of_true rfl ?_
      simp only [Bool.and_eq_true, Bool.not_eq_true', Bool.and_eq_false_imp, beq_eq_false_iff_ne, ne_eq] at g
      obtain ⟨r, hr⟩ := sub_ne.1 g.1
      have hr0 : r = [] := (hL _ hr).2.1 rfl
      subst hr0
      refine ⟨[[62]], hr, fun ⟨a, b⟩ => g.2 a b.symm, by simp [pc]⟩
    · rw [if_neg g]
      have g' : ∀ r, [62] :: r ∈ L → self = true ∧ y :: ys = [[62]] := by
        intro r hr
        have := sub_ne.2 ⟨r, hr⟩
        simp only [this, Bool.not_false, Bool.true_and, Bool.not_eq_true', Bool.not_eq_false, Bool.and_eq_true, beq_iff_eq] at g
        exact g
      by_cases c : y = [62]
      · subst c
        have hys : ys = [] := hy.2.1 rfl
        subst hys
        simp only [beq_self_eq_true, if_true, Bool.false_eq_true, false_iff]
        rintro ⟨x, hx, h1, h2⟩
        cases x with
        | nil => simp [pc] at h2
        | cons h r =>
          by_cases e : h = [62]
          · subst e
            have hr0 : r = [] := (hL _ hx).2.1 rfl
            subst hr0
            exact h1 ⟨(g' _ hx).1, rfl⟩
          · simp [pc, e] at h2
      · rw [if_neg (by simpa using c)]
        by_cases d : (!(sub [42] L).isEmpty && anyC ys (sub [42] L) (self && (y == [42]))) = true
        · rw [if_pos d]
          refine iff_of_true rfl ?_
          rw [Bool.and_eq_true, anyC_iff] at d
          obtain ⟨_, x, hx, h1, h2⟩ := d
          refine ⟨[42] :: x, mem_sub.1 hx, ?_, by simp [pc, c, h2]⟩
          rintro ⟨a, b⟩
          injection b with b1 b2
          exact h1 ⟨by simp [a, b1.symm], b2⟩
        · rw [if_neg d]
          have d' : ∀ x, [42] :: x ∈ L → ¬ (self = true ∧ [42] :: x = y :: ys) → pc x ys = true → False := by
            intro x hx h1 h2
            apply d
            rw [Bool.and_eq_true, anyC_iff]
            refine ⟨by rw [sub_ne.2 ⟨x, hx⟩]; rfl, x, mem_sub.2 hx, ?_, h2⟩
            rintro ⟨a, b⟩
            simp only [Bool.and_eq_true, beq_iff_eq] at a
            exact h1 ⟨a.1, by rw [a.2, b]⟩
          by_cases e : y = [42]
          · subst e
            simp only [beq_self_eq_true, if_true, Bool.false_eq_true, false_iff]
            rintro ⟨x, hx, h1, h2⟩
            cases x with
            | nil => simp [pc] at h2
            | cons h r =>
              by_cases e1 : h = [62]
              · subst e1
                have := (g' _ hx).2
                simp at this
              · by_cases e2 : h = [42]
                · subst e2
                  exact d' r hx h1 (by simpa [pc] using h2)
                · simp [pc, e1, e2] at h2
          · rw [if_neg (by simpa using e), Bool.and_eq_true, anyC_iff]
            constructor
            · rintro ⟨_, x, hx, h1, h2⟩
              refine ⟨y :: x, mem_sub.1 hx, ?_, by simp [pc, c, e, h2]⟩
              rintro ⟨a, b⟩
              injection b with b1 b2
              exact h1 ⟨a, b2⟩
            · rintro ⟨x, hx, h1, h2⟩
              cases x with
              | nil => simp [pc] at h2
              | cons h r =>
                by_cases e1 : h = [62]
                · subst e1
                  have := (g' _ hx).2
                  injection this with t1 _
                  exact absurd t1 c
                · by_cases e2 : h = [42]
                  · subst e2
                    exact (d' r hx h1 (by simpa [pc, c] using h2)).elim
                  · simp [pc, e1, e2, c, e] at h2
                    obtain ⟨rfl, h2⟩ := h2
                    refine ⟨by rw [sub_ne.2 ⟨r, hx⟩]; rfl, r, mem_sub.2 hx, ?_, h2⟩
                    rintro ⟨a, b⟩
                    exact h1 ⟨a, by rw [b]⟩

theorem rem_append (p : List Bs) (L M : List (List Bs)) : rem p (L ++ M) = rem p L ++ rem p M := by
  induction p with
  | nil => rfl
  | cons t p ih => simp [rem, ih, sub]

theorem mem_rem {p : List Bs} {L : List (List Bs)} {r : List Bs} : r ∈ rem p L ↔ p.reverse ++ r ∈ L := by
  induction p generalizing r with
  | nil => simp [rem]
  | cons t p ih => simp only [rem, mem_sub, ih]; simp

end Go.Proofs.Qxb6602990a.Pl
