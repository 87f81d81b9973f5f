/-
  The law's own pairwise cover.
-/
import Derived.Test.Qxb6602990aValid
import Derived.Test.Qxb6602990aCovers
namespace Go.Proofs.Qxb6602990a
open Go.RowKit Pl Go.PlainAid

theorem ret_int {k : IntKind} {a b : Int} (h : a = b) : Ending.returned (.int k a) = .returned (.int k b) := by rw [h]

/-- The token at place i: no dot in it; behind it a dot, or the end. -/
def TokAt (l : Bs) (i : Nat) (t : Bs) : Prop := ∃ rest, l.drop i = t ++ rest ∧ 46 ∉ t ∧ (rest = [] ∨ ∃ r, rest = 46 :: r)

theorem TokAt.le {l : Bs} {i : Nat} {t : Bs} (h : TokAt l i t) (hi : i ≤ l.length) : i + t.length ≤ l.length := by
  obtain ⟨rest, hd, _, _⟩ := h
  have := congrArg List.length hd
  simp at this
  omega
theorem TokAt.mid {l : Bs} {i : Nat} {t : Bs} (h : TokAt l i t) {k : Nat} (h1 : i ≤ k) (h2 : k < i + t.length) : ∃ hk : k < l.length, l[k] ≠ 46 := by
  obtain ⟨rest, hd, hn, _⟩ := h
  have hlen := congrArg List.length hd
  simp at hlen
  have hk : k < l.length := by omega
  refine ⟨hk, fun e => hn ?_⟩
  have hkt : k - i < t.length := by omega
  have h3 : (l.drop i)[k - i]? = some l[k] := by
    rw [List.getElem?_drop, show i + (k - i) = k by omega, List.getElem?_eq_getElem hk]
  rw [hd, List.getElem?_append_left hkt, List.getElem?_eq_getElem hkt] at h3
  have h4 := Option.some.inj h3
  rw [e] at h4
  rw [← h4]
  exact List.getElem_mem _
theorem TokAt.last {l : Bs} {i : Nat} {t : Bs} (h : TokAt l i t) (hi : i ≤ l.length) : i + t.length = l.length ∨ ∃ hk : i + t.length < l.length, l[i + t.length] = 46 := by
  obtain ⟨rest, hd, _, hr⟩ := h
  have hlen := congrArg List.length hd
  simp at hlen
  rcases hr with rfl | ⟨r, rfl⟩
  · left; simp at hlen; omega
  · right
    simp at hlen
    have hk : i + t.length < l.length := by omega
    refine ⟨hk, ?_⟩
    have h3 : (l.drop i)[t.length]? = some l[i + t.length] := by
      rw [List.getElem?_drop, List.getElem?_eq_getElem hk]
    rw [hd, List.getElem?_append_right (Nat.le_refl _)] at h3
    simp at h3
    exact h3.symm

set_option maxHeartbeats 400000 in
theorem tokEnd_any (s : ByteArray) (i : Nat) (t : Bs) (w : World) (hs : s.size ≤ 1048576) (hi : i ≤ s.size) (ht : Hid (TokAt s.data.toList i t)) :
    Calls Try.prog 42 #[.string s, .int .i64 i] w fun e w' => e = .returned (.int .i64 ((i + t.length : Nat) : Int)) ∧ w' = w := by
  have hb := get_bt s
  have hsz := size_list s
  have Hsz := hidC hsz
  have hle : i + t.length ≤ s.size := by have := ht.out.le (by omega); omega
  clear hsz
  go_enter Try.func42, Try.ntmps42
  go_wp2
  go_loop [5] (fun k => ∃ j : Nat, k = .int .i64 j ∧ i ≤ j ∧ j ≤ i + t.length) (fun k => s.size - (intOf k).toNat)
  case atStart => exact ⟨i, rfl, Nat.le_refl _, Nat.le_add_right _ _⟩
  case round =>
    obtain ⟨k, rfl, hk1, hk2⟩ := hrel
    by_cases hlt : k < i + t.length
    · obtain ⟨hk, hne⟩ := ht.out.mid hk1 hlt
      have hne' : (bt s k != 46) = true := by
        rw [bne_iff_ne]; intro e; exact hne ((byte_is hk 46).2 e)
      have hkn : k < s.size := by rw [← Hsz.out]; exact hk
      clear hne hk
      go_wp2
      exact ⟨⟨k + 1, by go_num, by omega, by omega⟩, by simp [intOf]; omega⟩
    · have hke : k = i + t.length := by omega
      rcases ht.out.last (by rw [Hsz.out]; exact hi) with he | ⟨hk, he⟩
      · have hge : s.size ≤ k := by rw [hke, he, Hsz.out]; exact Nat.le_refl _
        have Hke := hidC hke
        clear he hke
        go_wp2
        go_ret
        exact ⟨ret_int (by have := Hke.out; omega), rfl⟩
      · have he' : (bt s k != 46) = false := by
          rw [bne_eq_false_iff_eq, hke]; exact (byte_is hk 46).1 he
        have hkn : k < s.size := by rw [hke, ← Hsz.out]; exact hk
        have Hke := hidC hke
        clear he hk hke
        go_wp2
        go_ret
        exact ⟨ret_int (by have := Hke.out; omega), rfl⟩

theorem tokAt_join {l : Bs} {i : Nat} {x : Bs} {r : List Bs} (hd : l.drop i = joinD (x :: r)) (hx : okTok x) : TokAt l i x := by
  cases r with
  | nil => exact ⟨[], by rw [hd, joinD_one]; simp, hx.2, .inl rfl⟩
  | cons u r => exact ⟨46 :: joinD (u :: r), by rw [hd, joinD_cons x (by simp)], hx.2, .inr ⟨_, rfl⟩⟩

theorem ext_tok {s : ByteArray} {i : Nat} {x : Bs} {rest : Bs} (hd : s.data.toList.drop i = x ++ rest) : s.extract i (i + x.length) = ⟨x.toArray⟩ := by
  apply Go.WideShapes.bytes_inj
  rw [ByteArray.data_extract]
  simp only [Array.toList_extract, List.extract_eq_take_drop, hd]
  simp

theorem join_split (x : Bs) (r : List Bs) : ∃ rest, joinD (x :: r) = x ++ rest := by
  cases r with
  | nil => exact ⟨[], by simp [joinD]⟩
  | cons u r => exact ⟨46 :: joinD (u :: r), joinD_cons x (by simp)⟩

theorem join_last {l : Bs} {i : Nat} {x : Bs} {r : List Bs} (hd : l.drop i = joinD (x :: r)) (hi : i ≤ l.length) : i + x.length = l.length ↔ r = [] := by
  have hlen := congrArg List.length hd
  simp only [List.length_drop] at hlen
  cases r with
  | nil => rw [joinD_one] at hlen; simp; omega
  | cons u r => rw [joinD_cons x (by simp)] at hlen; simp at hlen; simp; omega

theorem join_next {l : Bs} {i : Nat} {x : Bs} {r : List Bs} (hd : l.drop i = joinD (x :: r)) (hr : r ≠ []) : l.drop (i + x.length + 1) = joinD r := by
  rw [joinD_cons x hr] at hd
  have : l.drop (i + x.length + 1) = (l.drop i).drop (x.length + 1) := by rw [List.drop_drop, Nat.add_assoc]
  rw [this, hd, List.drop_append]
  simp

theorem pc_cons (x y : Bs) (xs ys : List Bs) : pc (x :: xs) (y :: ys) = if x = [62] then true else if y = [62] then false else if x = [42] then pc xs ys else if y = [42] then false else if x = y then pc xs ys else false := rfl

/-- The loop's relation. -/
def CovRel (xs ys : List Bs) (e s : ByteArray) (i j : Value) : Prop :=
  ∃ (a b : Nat) (x : Bs) (xr : List Bs) (y : Bs) (yr : List Bs), i = .int .i64 a ∧ j = .int .i64 b ∧ a ≤ e.size ∧ b ≤ s.size ∧ GoodS (x :: xr) ∧ GoodS (y :: yr)
    ∧ e.data.toList.drop a = joinD (x :: xr) ∧ s.data.toList.drop b = joinD (y :: yr) ∧ pc (x :: xr) (y :: yr) = pc xs ys

set_option maxHeartbeats 1000000 in
theorem cov_any (e s : ByteArray) (xs ys : List Bs) (w : World) (he : e.size ≤ 1048576) (hs : s.size ≤ 1048576) (hx : GoodS xs) (hy : GoodS ys) (hxn : xs ≠ []) (hyn : ys ≠ [])
    (hex : e.data.toList = joinD xs) (hsy : s.data.toList = joinD ys) :
    Calls Try.prog 30 #[.string e, .string s] w fun e w' => e = .returned (.bool (pc xs ys)) ∧ w' = w := by
  have hstart : CovRel xs ys e s (.int .i64 0) (.int .i64 0) := by
    cases xs with
    | nil => exact absurd rfl hxn
    | cons x xr =>
      cases ys with
      | nil => exact absurd rfl hyn
      | cons y yr => exact ⟨0, 0, x, xr, y, yr, rfl, rfl, Nat.zero_le _, Nat.zero_le _, hx, hy, by simpa using hex, by simpa using hsy, rfl⟩
  clear hx hy hxn hyn hex hsy
  go_enter Try.func30, Try.ntmps30
  go_wp2_with fail
  go_loop [5, 6] (fun i j => CovRel xs ys e s i j) (fun i _ => e.size - (intOf i).toNat)
  case atStart => exact hstart
  case round =>
    obtain ⟨a, b, x, xr, y, yr, rfl, rfl, ha, hb, hx, hy, hda, hdb, hpc⟩ := hrel
    have hsze := size_list e
    have hszs := size_list s
    obtain ⟨ke, hke⟩ : ∃ ke, ke = a + x.length := ⟨_, rfl⟩
    obtain ⟨ks, hks⟩ : ∃ ks, ks = b + y.length := ⟨_, rfl⟩
    have Kx : Hid (∀ W, Calls Try.prog 42 #[.string e, .int .i64 a] W fun e1 w' => e1 = .returned (.int .i64 ke) ∧ w' = W) := by
      intro W; rw [hke]; exact tokEnd_any e a x W he ha (tokAt_join hda hx.1)
    have Ky : Hid (∀ W, Calls Try.prog 42 #[.string s, .int .i64 b] W fun e1 w' => e1 = .returned (.int .i64 ks) ∧ w' = W) := by
      intro W; rw [hks]; exact tokEnd_any s b y W hs hb (tokAt_join hdb hy.1)
    have hxe : e.extract a ke = ⟨x.toArray⟩ := by
      obtain ⟨rest, hr⟩ := join_split x xr
      rw [hke]; exact ext_tok (hda.trans hr)
    have hye : s.extract b ks = ⟨y.toArray⟩ := by
      obtain ⟨rest, hr⟩ := join_split y yr
      rw [hks]; exact ext_tok (hdb.trans hr)
    have hxpos : 0 < x.length := List.length_pos_iff.2 hx.1.1
    have hypos : 0 < y.length := List.length_pos_iff.2 hy.1.1
    have hke1 : a < ke := by omega
    have hke3 : a ≤ ke := by omega
    have hks3 : b ≤ ks := by omega
    have hks1 : b < ks := by omega
    have hke2 : ke ≤ e.size := by have := (tokAt_join hda hx.1).le (by omega); omega
    have hks2 : ks ≤ s.size := by have := (tokAt_join hdb hy.1).le (by omega); omega
    have Lx : Hid (ke = e.size ↔ xr = []) := by show _ ↔ _; rw [hke, ← hsze]; exact join_last hda (by omega)
    have Ly : Hid (ks = s.size ↔ yr = []) := by show _ ↔ _; rw [hks, ← hszs]; exact join_last hdb (by omega)
    have Nx : Hid (xr ≠ [] → e.data.toList.drop (ke + 1) = joinD xr) := by intro h; rw [hke]; exact join_next hda h
    have Ny : Hid (yr ≠ [] → s.data.toList.drop (ks + 1) = joinD yr) := by intro h; rw [hks]; exact join_next hdb h
    have hpc' := hpc
    rw [pc_cons] at hpc'
    clear hstart hsze hszs hke hks hda hdb hpc hxpos hypos
    cases h1 : x == [62] with
    | true =>
      have hfin : Hid (true = pc xs ys) := by show _ = _; rw [← hpc', if_pos (by simpa using h1)]
      clear hpc'
      go_wp2_with fail
      refine (Kx.out _).mono ?_
      rintro e1 w' ⟨rfl, rfl⟩
      go_wp2_with fail
      refine (Ky.out _).mono ?_
      rintro e1 w' ⟨rfl, rfl⟩
      go_wp2_with fail
      all_goals (go_ret; exact ⟨ret_bool hfin.out, rfl⟩)
    | false =>
      rw [if_neg (by simpa using h1)] at hpc'
      cases h2 : y == [62] with
      | true =>
        have hfin : Hid (false = pc xs ys) := by show _ = _; rw [← hpc', if_pos (by simpa using h2)]
        clear hpc'
        go_wp2_with fail
        refine (Kx.out _).mono ?_
        rintro e1 w' ⟨rfl, rfl⟩
        go_wp2_with fail
        refine (Ky.out _).mono ?_
        rintro e1 w' ⟨rfl, rfl⟩
        go_wp2_with fail
        all_goals (go_ret; exact ⟨ret_bool hfin.out, rfl⟩)
      | false =>
        rw [if_neg (by simpa using h2)] at hpc'
        cases h3 : x == [42] with
        | true =>
          rw [if_pos (by simpa using h3)] at hpc'
          have Hpc := hidC hpc'
          clear hpc'
          by_cases hxl : xr = []
          · have he1 : ((ke : Int) == (e.size : Int)) = true := by rw [beq_iff_eq]; have := (Lx.out.2 hxl); omega
            by_cases hyl : yr = []
            · have hs1 : ((ks : Int) == (s.size : Int)) = true := by rw [beq_iff_eq]; have := (Ly.out.2 hyl); omega
              have hfin : Hid (true = pc xs ys) := by show _ = _; rw [← Hpc.out, hxl, hyl]; rfl
              clear hxl hyl
              go_wp2_with fail
              refine (Kx.out _).mono ?_
              rintro e1 w' ⟨rfl, rfl⟩
              go_wp2_with fail
              refine (Ky.out _).mono ?_
              rintro e1 w' ⟨rfl, rfl⟩
              go_wp2_with fail
              all_goals (go_ret; exact ⟨ret_bool hfin.out, rfl⟩)
            · have hs1 : ((ks : Int) == (s.size : Int)) = false := beq_eq_false_iff_ne.2 (fun h => hyl (Ly.out.1 (by omega)))
              have hfin : Hid (false = pc xs ys) := by
                show _ = _; rw [← Hpc.out, hxl]; cases yr with
                | nil => exact absurd rfl hyl
                | cons u r => rfl
              clear hxl hyl
              go_wp2_with fail
              refine (Kx.out _).mono ?_
              rintro e1 w' ⟨rfl, rfl⟩
              go_wp2_with fail
              refine (Ky.out _).mono ?_
              rintro e1 w' ⟨rfl, rfl⟩
              go_wp2_with fail
              all_goals (go_ret; exact ⟨ret_bool hfin.out, rfl⟩)
          · have he1 : ((ke : Int) == (e.size : Int)) = false := beq_eq_false_iff_ne.2 (fun h => hxl (Lx.out.1 (by omega)))
            by_cases hyl : yr = []
            · have hs1 : ((ks : Int) == (s.size : Int)) = true := by rw [beq_iff_eq]; have := (Ly.out.2 hyl); omega
              have hfin : Hid (false = pc xs ys) := by
                show _ = _; rw [← Hpc.out, hyl]; cases xr with
                | nil => exact absurd rfl hxl
                | cons u r => rfl
              clear hxl hyl
              go_wp2_with fail
              refine (Kx.out _).mono ?_
              rintro e1 w' ⟨rfl, rfl⟩
              go_wp2_with fail
              refine (Ky.out _).mono ?_
              rintro e1 w' ⟨rfl, rfl⟩
              go_wp2_with fail
              all_goals (go_ret; exact ⟨ret_bool hfin.out, rfl⟩)
            · have hs1 : ((ks : Int) == (s.size : Int)) = false := beq_eq_false_iff_ne.2 (fun h => hyl (Ly.out.1 (by omega)))
              have hkel : ke < e.size := by have : ke ≠ e.size := fun h => hxl (Lx.out.1 h); omega
              have hksl : ks < s.size := by have : ks ≠ s.size := fun h => hyl (Ly.out.1 h); omega
              have hnext : Hid (CovRel xs ys e s (.int .i64 ((ke : Int) + 1)) (.int .i64 ((ks : Int) + 1))) := by
                obtain ⟨u, ur, rfl⟩ := List.exists_cons_of_ne_nil hxl
                obtain ⟨v, vr, rfl⟩ := List.exists_cons_of_ne_nil hyl
                exact ⟨ke + 1, ks + 1, u, ur, v, vr, by go_num, by go_num, by omega, by omega, hx.2.2, hy.2.2, Nx.out (by simp), Ny.out (by simp), Hpc.out⟩
              clear hxl hyl hx hy
              go_wp2_with fail
              refine (Kx.out _).mono ?_
              rintro e1 w' ⟨rfl, rfl⟩
              go_wp2_with fail
              refine (Ky.out _).mono ?_
              rintro e1 w' ⟨rfl, rfl⟩
              go_wp2_with fail
              all_goals exact ⟨hnext.out, by simp [intOf]; omega⟩
        | false =>
          rw [if_neg (by simpa using h3)] at hpc'
          cases h4 : y == [42] with
          | true =>
            have hfin : Hid (false = pc xs ys) := by show _ = _; rw [← hpc', if_pos (by simpa using h4)]
            clear hpc'
            go_wp2_with fail
            refine (Kx.out _).mono ?_
            rintro e1 w' ⟨rfl, rfl⟩
            go_wp2_with fail
            refine (Ky.out _).mono ?_
            rintro e1 w' ⟨rfl, rfl⟩
            go_wp2_with fail
            all_goals (go_ret; exact ⟨ret_bool hfin.out, rfl⟩)
          | false =>
            rw [if_neg (by simpa using h4)] at hpc'
            cases h5 : x == y with
            | false =>
              have hfin : Hid (false = pc xs ys) := by show _ = _; rw [← hpc', if_neg (by simpa using h5)]
              clear hpc'
              go_wp2_with fail
              refine (Kx.out _).mono ?_
              rintro e1 w' ⟨rfl, rfl⟩
              go_wp2_with fail
              refine (Ky.out _).mono ?_
              rintro e1 w' ⟨rfl, rfl⟩
              go_wp2_with fail
              all_goals (go_ret; exact ⟨ret_bool hfin.out, rfl⟩)
            | true =>
              rw [if_pos (by simpa using h5)] at hpc'
              have Hpc := hidC hpc'
              clear hpc'
              by_cases hxl : xr = []
              · have he1 : ((ke : Int) == (e.size : Int)) = true := by rw [beq_iff_eq]; have := (Lx.out.2 hxl); omega
                by_cases hyl : yr = []
                · have hs1 : ((ks : Int) == (s.size : Int)) = true := by rw [beq_iff_eq]; have := (Ly.out.2 hyl); omega
                  have hfin : Hid (true = pc xs ys) := by show _ = _; rw [← Hpc.out, hxl, hyl]; rfl
                  clear hxl hyl
                  go_wp2_with fail
                  refine (Kx.out _).mono ?_
                  rintro e1 w' ⟨rfl, rfl⟩
                  go_wp2_with fail
                  refine (Ky.out _).mono ?_
                  rintro e1 w' ⟨rfl, rfl⟩
                  go_wp2_with fail
                  all_goals (go_ret; exact ⟨ret_bool hfin.out, rfl⟩)
                · have hs1 : ((ks : Int) == (s.size : Int)) = false := beq_eq_false_iff_ne.2 (fun h => hyl (Ly.out.1 (by omega)))
                  have hfin : Hid (false = pc xs ys) := by
                    show _ = _; rw [← Hpc.out, hxl]; cases yr with
                    | nil => exact absurd rfl hyl
                    | cons u r => rfl
                  clear hxl hyl
                  go_wp2_with fail
                  refine (Kx.out _).mono ?_
                  rintro e1 w' ⟨rfl, rfl⟩
                  go_wp2_with fail
                  refine (Ky.out _).mono ?_
                  rintro e1 w' ⟨rfl, rfl⟩
                  go_wp2_with fail
                  all_goals (go_ret; exact ⟨ret_bool hfin.out, rfl⟩)
              · have he1 : ((ke : Int) == (e.size : Int)) = false := beq_eq_false_iff_ne.2 (fun h => hxl (Lx.out.1 (by omega)))
                by_cases hyl : yr = []
                · have hs1 : ((ks : Int) == (s.size : Int)) = true := by rw [beq_iff_eq]; have := (Ly.out.2 hyl); omega
                  have hfin : Hid (false = pc xs ys) := by
                    show _ = _; rw [← Hpc.out, hyl]; cases xr with
                    | nil => exact absurd rfl hxl
                    | cons u r => rfl
                  clear hxl hyl
                  go_wp2_with fail
                  refine (Kx.out _).mono ?_
                  rintro e1 w' ⟨rfl, rfl⟩
                  go_wp2_with fail
                  refine (Ky.out _).mono ?_
                  rintro e1 w' ⟨rfl, rfl⟩
                  go_wp2_with fail
                  all_goals (go_ret; exact ⟨ret_bool hfin.out, rfl⟩)
                · have hs1 : ((ks : Int) == (s.size : Int)) = false := beq_eq_false_iff_ne.2 (fun h => hyl (Ly.out.1 (by omega)))
                  have hkel : ke < e.size := by have : ke ≠ e.size := fun h => hxl (Lx.out.1 h); omega
                  have hksl : ks < s.size := by have : ks ≠ s.size := fun h => hyl (Ly.out.1 h); omega
                  have hnext : Hid (CovRel xs ys e s (.int .i64 ((ke : Int) + 1)) (.int .i64 ((ks : Int) + 1))) := by
                    obtain ⟨u, ur, rfl⟩ := List.exists_cons_of_ne_nil hxl
                    obtain ⟨v, vr, rfl⟩ := List.exists_cons_of_ne_nil hyl
                    exact ⟨ke + 1, ks + 1, u, ur, v, vr, by go_num, by go_num, by omega, by omega, hx.2.2, hy.2.2, Nx.out (by simp), Ny.out (by simp), Hpc.out⟩
                  clear hxl hyl hx hy
                  go_wp2_with fail
                  refine (Kx.out _).mono ?_
                  rintro e1 w' ⟨rfl, rfl⟩
                  go_wp2_with fail
                  refine (Ky.out _).mono ?_
                  rintro e1 w' ⟨rfl, rfl⟩
                  go_wp2_with fail
                  all_goals exact ⟨hnext.out, by simp [intOf]; omega⟩
end Go.Proofs.Qxb6602990a
