/-
  The law's test of a subject.
-/
import Derived.Test.Qxb6602990aCut
import Derived.PlainAid
namespace Go.Proofs.Qxb6602990a
open Go.RowKit Pl Go.PlainAid

theorem ret_bool' {a b : Bool} (h : a = b) : Ending.returned (.bool a) = .returned (.bool b) := by rw [h]

/-- The token's part that the loop has read. -/
def curOf (l : Bs) (a k : Nat) : Bs := (l.drop a).take (k - a)

theorem cur_self (l : Bs) (a : Nat) : curOf l a a = [] := by simp [curOf]
theorem cur_step {l : Bs} {a k : Nat} (h : a ≤ k) (hk : k < l.length) : curOf l a (k + 1) = curOf l a k ++ [l[k]] := by
  unfold curOf
  have e : k + 1 - a = (k - a) + 1 := by omega
  rw [e, List.take_succ_eq_append_getElem (by simp; omega)]
  congr 2
  simp only [List.getElem_drop]
  congr 1
  omega
theorem cur_len {l : Bs} {a k : Nat} (hk : k ≤ l.length) : (curOf l a k).length = k - a := by
  simp [curOf]; omega
theorem cur_extract (s : ByteArray) (a k : Nat) : (s.extract a k).toList = curOf s.data.toList a k := by
  rw [ByteArray.toList_eq, ByteArray.data_extract]
  simp [curOf, Array.toList_extract, List.extract_eq_take_drop]

theorem size_list (s : ByteArray) : s.data.toList.length = s.size := by rw [Array.length_toList]; rfl

theorem byte_bt {s : ByteArray} {k : Nat} (hk : k < s.data.toList.length) : ((s.data.toList[k].toNat : Nat) : Int) = bt s k := by
  have hk' : k < s.size := by rw [← size_list]; exact hk
  rw [← get_bt s k hk']; rfl
theorem byte_is {s : ByteArray} {k : Nat} (hk : k < s.data.toList.length) (c : UInt8) : s.data.toList[k] = c ↔ bt s k = c.toNat := by
  rw [← byte_bt hk]
  constructor
  · intro h; rw [h]
  · intro h; exact UInt8.toNat_inj.1 (by omega)

theorem drop_at {l : Bs} {k : Nat} (hk : k < l.length) : l.drop k = l[k] :: l.drop (k + 1) := List.drop_eq_getElem_cons hk

def ValRel (s : ByteArray) (st i : Value) : Prop :=
  ∃ a k : Nat, st = .int .i64 a ∧ i = .int .i64 k ∧ a ≤ k ∧ k ≤ s.size + 1 ∧ ((k ≤ s.size ∧ vf (curOf s.data.toList a k) (s.data.toList.drop k) = vf [] s.data.toList) ∨ (k = s.size + 1 ∧ vf [] s.data.toList = true))

theorem vf_end {l : Bs} {a k : Nat} (h : vf (curOf l a k) (l.drop k) = vf [] l) (hk : k = l.length) : vf [] l = !decide (a = k ∨ k < a) := by
  rw [← h, hk, List.drop_length]
  have := cur_len (l := l) (a := a) (k := l.length) (Nat.le_refl _)
  unfold vf
  cases hc : curOf l a l.length with
  | nil => rw [hc] at this; simp at this; simp; omega
  | cons x y => rw [hc] at this; simp at this; simp; omega

set_option maxHeartbeats 1000000 in
theorem valid_any (s : ByteArray) (w : World) (hs : s.size ≤ 1048576) :
    Calls Try.prog 28 #[.string s] w fun e w' => e = .returned (.bool (vf [] s.data.toList)) ∧ w' = w := by
  have hsz := size_list s
  by_cases h0 : s.size = 0
  · have h0' : ((s.size : Int) == 0) = true := by simp [h0]
    have hu : Hid (vf [] s.data.toList = false) := by
      show _ = _
      rw [h0] at hsz
      rw [List.length_eq_zero_iff.1 hsz]; rfl
    clear h0 hsz
    go_enter Try.func28, Try.ntmps28
    go_wp2
    go_ret
    exact ⟨ret_bool' hu.out.symm, rfl⟩
  have h0' : ((s.size : Int) == 0) = false := beq_eq_false_iff_ne.2 (by omega)
  have hb := get_bt s
  have hstart : ValRel s (.int .i64 0) (.int .i64 0) := ⟨0, 0, rfl, rfl, Nat.le_refl _, Nat.zero_le _, .inl ⟨Nat.zero_le _, by rw [cur_self]; rfl⟩⟩
  have Hsz : Hid (s.data.toList.length = s.size) := hsz
  clear hsz
  go_enter Try.func28, Try.ntmps28
  go_wp2
  go_loop [3, 4] (fun st i => ValRel s st i) (fun _ i => s.size + 1 - (intOf i).toNat)
  case atStart => exact hstart
  case round =>
    obtain ⟨a, k, rfl, rfl, hak, hkn, hrel⟩ := hrel
    clear hstart
    rcases hrel with ⟨hk, hv⟩ | ⟨hk, hv⟩
    · have hv' : Hid (vf (curOf s.data.toList a k) (s.data.toList.drop k) = vf [] s.data.toList) := hv
      clear hv
      by_cases hend : k = s.size
      · have he : ((k : Int) == (s.size : Int)) = true := by simp [hend]
        have hne' : ((k : Int) != (s.size : Int)) = false := by simp [hend]
        have hfin : Hid (vf [] s.data.toList = !decide (a = k ∨ k < a)) := vf_end hv'.out (hend.trans Hsz.out.symm)
        have hkle : k ≤ s.size := hk
        have hkge : s.size ≤ k := by omega
        clear hend hk
        by_cases hst : k = a
        · have hst' : ((k : Int) == (a : Int)) = true := by simp [hst]
          have hfin' : Hid (vf [] s.data.toList = false) := by show _ = _; rw [hfin.out]; simp [hst]
          clear hst
          go_wp2
          go_ret
          exact ⟨ret_bool' hfin'.out.symm, rfl⟩
        · have hst' : ((k : Int) == (a : Int)) = false := beq_eq_false_iff_ne.2 (by omega)
          have hfin' : Hid (vf [] s.data.toList = true) := by show _ = _; rw [hfin.out]; simp; omega
          clear hst
          go_wp2
          exact ⟨⟨k + 1, k + 1, by go_num, by go_num, Nat.le_refl _, by omega, .inr ⟨by omega, hfin'.out⟩⟩, by simp [intOf]; omega⟩
      · have hlt : k < s.size := by omega
        have hlt' : k < s.data.toList.length := by rw [Hsz.out]; exact hlt
        have he : ((k : Int) == (s.size : Int)) = false := beq_eq_false_iff_ne.2 (by omega)
        have hne' : ((k : Int) != (s.size : Int)) = true := by rw [bne_iff_ne]; omega
        have hcl : Hid ((curOf s.data.toList a k).length = k - a) := cur_len (by omega)
        have hdr : Hid (s.data.toList.drop k = s.data.toList[k] :: s.data.toList.drop (k + 1)) := drop_at hlt'
        clear hend hk
        by_cases hc : bt s k = 46
        · have hc' : (bt s k == 46) = true := by simp [hc]
          have hbyte : Hid (s.data.toList[k] = 46) := (byte_is hlt' 46).2 hc
          have hv2 : Hid (vf [] s.data.toList = ((!(curOf s.data.toList a k).isEmpty && !(curOf s.data.toList a k == [62])) && vf [] (s.data.toList.drop (k + 1)))) := by
            show _ = _
            rw [← hv'.out, hdr.out, hbyte.out]
            conv => lhs; unfold vf
            rw [if_pos rfl]
          clear hc
          by_cases hst : k = a
          · have hst' : ((k : Int) == (a : Int)) = true := by simp [hst]
            have hfin' : Hid (vf [] s.data.toList = false) := by
              show _ = _; rw [hv2.out, hst, cur_self]; rfl
            clear hst hdr hbyte hlt'
            go_wp2
            go_ret
            exact ⟨ret_bool' hfin'.out.symm, rfl⟩
          · have hst' : ((k : Int) == (a : Int)) = false := beq_eq_false_iff_ne.2 (by omega)
            have hne0 : Hid ((curOf s.data.toList a k).isEmpty = false) := by
              show _ = _
              cases hcc : curOf s.data.toList a k with
              | nil => have := hcl.out; rw [hcc] at this; simp at this; omega
              | cons x y => rfl
            clear hst
            cases hgt : curOf s.data.toList a k == [62] with
            | true =>
              have hex : ((s.extract a k).toList == [62]) = true := by rw [cur_extract]; exact hgt
              have hfin' : Hid (vf [] s.data.toList = false) := by show _ = _; rw [hv2.out, hgt]; simp
              clear hgt hdr hbyte hlt'
              go_wp2
              go_ret
              exact ⟨ret_bool' hfin'.out.symm, rfl⟩
            | false =>
              have hex : ((s.extract a k).toList == [62]) = false := by rw [cur_extract]; exact hgt
              have hfin' : Hid (vf [] (s.data.toList.drop (k + 1)) = vf [] s.data.toList) := by show _ = _; rw [hv2.out, hgt, hne0.out]; simp
              clear hgt hdr hbyte hlt'
              go_wp2
              exact ⟨⟨k + 1, k + 1, by go_num, by go_num, Nat.le_refl _, by omega, .inl ⟨by omega, by rw [cur_self]; exact hfin'.out⟩⟩, by simp [intOf]; omega⟩
        · have hc' : (bt s k == 46) = false := by simp [hc]
          have hbyte : Hid (¬ s.data.toList[k] = 46) := fun e => hc ((byte_is hlt' 46).1 e)
          have hv2 : Hid (vf (curOf s.data.toList a (k + 1)) (s.data.toList.drop (k + 1)) = vf [] s.data.toList) := by
            show _ = _
            rw [← hv'.out, hdr.out, cur_step hak hlt']
            conv => rhs; unfold vf
            rw [if_neg hbyte.out]
          clear hc hdr hbyte hlt'
          go_wp2
          exact ⟨⟨a, k + 1, rfl, by go_num, by omega, by omega, .inl ⟨by omega, hv2.out⟩⟩, by simp [intOf]; omega⟩
    · have hv' : Hid (vf [] s.data.toList = true) := hv
      have hk1 : s.size + 1 ≤ k := by omega
      clear hv hk
      go_wp2
      go_ret
      exact ⟨ret_bool' hv'.out.symm, rfl⟩
end Go.Proofs.Qxb6602990a
