import Derived.Test.Qxb6612473aPlain
import Derived.Deep.QuietTactic
import Derived.BigQuiet
namespace Go.Proofs.Qxb6612473a
open Go.RowKit

theorem pre_step (s p : ByteArray) (k : Nat) (hp : k < p.size) (hs : k < s.size) (e : s.data.toList.take k = p.data.toList.take k) (h : ((s[k].toNat : Int) != (p[k].toNat : Int)) = false) :
    s.data.toList.take (k + 1) = p.data.toList.take (k + 1) := by
  have h1 : (s[k].toNat : Int) = (p[k].toNat : Int) := by simpa using h
  have h2 : s[k] = p[k] := UInt8.toNat_inj.1 (by omega)
  rw [List.take_succ_eq_append_getElem (by simpa using hs), List.take_succ_eq_append_getElem (by simpa using hp), e]
  exact congrArg (fun x => List.take k p.data.toList ++ [x]) h2
theorem pre_no (s p : ByteArray) (k : Nat) (hp : k < p.size) (hs : k < s.size) (h : ((s[k].toNat : Int) != (p[k].toNat : Int)) = true) : Lib.hasPrefix s.data.toList p.data.toList = false := by
  have h1 : ¬ (s[k].toNat : Int) = (p[k].toNat : Int) := by simpa using h
  have h2 : ¬ s[k] = p[k] := fun e => h1 (by rw [e])
  rw [← Bool.not_eq_true]
  intro hh
  obtain ⟨t, ht⟩ := List.isPrefixOf_iff_prefix.1 hh
  apply h2
  have hs' : k < s.data.toList.length := by simpa using hs
  have hp' : k < p.data.toList.length := by simpa using hp
  have : s.data.toList[k] = p.data.toList[k] := by
    simp only [← ht]; rw [List.getElem_append_left hp']
  exact this
theorem pre_yes (s p : ByteArray) (_h : p.size ≤ s.size) (e : s.data.toList.take p.size = p.data.toList.take p.size) : Lib.hasPrefix s.data.toList p.data.toList = true := by
  rw [Lib.size_eq p, List.take_length] at e
  refine List.isPrefixOf_iff_prefix.2 ?_
  rw [← e]; exact List.take_prefix _ _

set_option maxHeartbeats 400000 in
theorem hp12_short (s p : ByteArray) (w : World) (h : s.size < p.size) :
    Calls Try.prog 12 #[.string s, .string p] w fun e w' => e = .returned (.bool (Lib.hasPrefix s.data.toList p.data.toList)) ∧ ∃ n, w' = w.drewN n := by
  have hr : Hid ((decide (p.size ≤ s.size) && ((s.extract 0 p.size).toList == p.toList)) = Lib.hasPrefix s.data.toList p.data.toList) := Lib.hasPrefix_raw s p
  go_enter Try.func12, Try.ntmps12
  go_wp2
  go_ret
  exact ⟨ret_bool (by rw [← hr.out, show decide (p.size ≤ s.size) = false by simpa using h]; rfl), 0, rfl⟩

set_option maxHeartbeats 400000 in
theorem hp12 (s p : ByteArray) (w : World) (hs : s.size ≤ maxLen) (h : p.size ≤ s.size) :
    Calls Try.prog 12 #[.string s, .string p] w fun e w' => e = .returned (.bool (Lib.hasPrefix s.data.toList p.data.toList)) ∧ ∃ n, w' = w.drewN n := by
  unfold maxLen at hs
  go_enter Try.func12, Try.ntmps12
  go_wp2
  go_loopw [5] (fun i wr => ∃ k n : Nat, k ≤ p.size ∧ i = .int .i64 k ∧ wr = w.drewN n ∧ Hid (s.data.toList.take k = p.data.toList.take k)) (fun i _ => p.size - (intOf i).toNat)
  case atStart => exact ⟨0, 0, Nat.zero_le _, rfl, rfl, rfl⟩
  case round =>
    obtain ⟨k, n, hk, rfl, rfl, he⟩ := hrel
    by_cases hlt : k < p.size
    · have hlt2 : k < s.size := by omega
      go_wp2
      go_quiet (fail)
      go_wp2
      · have hne : ((s[k].toNat : Int) != (p[k].toNat : Int)) = true := by assumption
        go_ret
        exact ⟨ret_bool (pre_no s p k hlt hlt2 hne).symm, _, World.drewN_drewN ..⟩
      · have hne : ((s[k].toNat : Int) != (p[k].toNat : Int)) = false := by assumption
        go_roundw
        case rel => exact ⟨k + 1, _, by omega, by go_num, rfl, pre_step s p k hlt hlt2 he.out hne⟩
        case measure => simp [intOf]; omega
    · go_wp2
      go_ret
      exact ⟨ret_bool (pre_yes s p h (by have := he.out; rwa [show k = p.size by omega] at this)).symm, n, rfl⟩

theorem dir_sls : sls (⟨#[47, 108, 115, 47, 108, 111, 99, 97, 108, 47, 97, 99, 108, 47]⟩ : ByteArray).data.toList = 4 := by decide

theorem file_plain (s : ByteArray) : isAcl s = (decide (14 < s.size) && Lib.hasPrefix s.data.toList dirL && ((sls s.data.toList : Int) == 4)) := by
  cases h : Lib.hasPrefix s.data.toList dirL
  · simp [isAcl, aclP, h, Lib.toList_data]
  · obtain ⟨t, ht⟩ := List.isPrefixOf_iff_prefix.1 h
    have hs : s = ⟨#[47, 108, 115, 47, 108, 111, 99, 97, 108, 47, 97, 99, 108, 47]⟩ ++ (⟨⟨t⟩⟩ : ByteArray) := by
      obtain ⟨⟨l⟩⟩ := s
      have : l = dirL ++ t := ht.symm
      subst this
      apply ByteArray.ext
      simp [dirL]
    have hsz : s.size = 14 + t.length := by rw [Lib.size_eq, ← ht]; simp [dirL]; omega
    have hc : sls s.data.toList = 4 + sls t := by
      rw [← ht]; unfold sls; rw [List.count_append]; rfl
    rw [hc, hsz, hs, isAcl_dir]
    have e1 : (⟨⟨t⟩⟩ : ByteArray).toList.isEmpty = t.isEmpty := by rw [Lib.toList_data]
    rw [e1]
    show (!t.isEmpty && ((sls t : Int) == 0)) = _
    have e2 : (((4 + sls t : Nat) : Int) == 4) = ((sls t : Int) == 0) := by
      rw [Bool.eq_iff_iff]; simp only [beq_iff_eq]; omega
    rw [e2]
    cases t <;> simp

set_option maxHeartbeats 400000 in
theorem file_any (s : ByteArray) (w : World) (hs : s.size ≤ maxLen) :
    Calls Try.prog 8 #[.string s] w fun e w' => e = .returned (.bool (isAcl s)) ∧ ∃ n, w' = w.drewN n := by
  have H : Hid (isAcl s = (decide (14 < s.size) && Lib.hasPrefix s.data.toList dirL && ((sls s.data.toList : Int) == 4))) := file_plain s
  by_cases h1 : 14 < s.size
  · have c12 : Calls Try.prog 12 #[.string s, .string ⟨#[47, 108, 115, 47, 108, 111, 99, 97, 108, 47, 97, 99, 108, 47]⟩] w fun e w' => e = .returned (.bool (Lib.hasPrefix s.data.toList dirL)) ∧ ∃ n, w' = w.drewN n :=
      hp12 s ⟨#[47, 108, 115, 47, 108, 111, 99, 97, 108, 47, 97, 99, 108, 47]⟩ w hs (by show 14 ≤ s.size; omega)
    have C12 : Hid (Calls Try.prog 12 #[.string s, .string ⟨#[47, 108, 115, 47, 108, 111, 99, 97, 108, 47, 97, 99, 108, 47]⟩] w fun e w' => e = .returned (.bool (Lib.hasPrefix s.data.toList dirL)) ∧ ∃ n, w' = w.drewN n) := c12
    clear c12
    cases h2 : Lib.hasPrefix s.data.toList dirL
    · go_enter Try.func8, Try.ntmps8
      go_wp2_with (first | (go_at_call 12; refine C12.out.mono ?_; rintro e w' ⟨rfl, n, rfl⟩))
      go_ret
      exact ⟨ret_bool (by rw [H.out, h2]; simp), n, rfl⟩
    · go_enter Try.func8, Try.ntmps8
      go_wp2_with (first | (go_at_call 12; refine C12.out.mono ?_; rintro e w' ⟨rfl, n, rfl⟩) | (go_at_call 10; refine (slashes_any _ _ (by first | exact hs | decide)).mono ?_; rintro e w' ⟨rfl, rfl⟩))
      go_ret
      refine ⟨ret_bool ?_, n, rfl⟩
      rw [H.out, h2, show sls [47, 108, 115, 47, 108, 111, 99, 97, 108, 47, 97, 99, 108, 47] = 4 from dir_sls]
      simp [h1]
  · go_enter Try.func8, Try.ntmps8
    go_wp2
    go_ret
    exact ⟨ret_bool (by rw [H.out]; simp [h1]), 0, rfl⟩

set_option maxHeartbeats 400000 in
theorem bytes5_no (a b : ByteArray) (w : World) (_ha : a.size ≤ maxLen) (_hb : b.size ≤ maxLen) (h : 1048576 < a.size + b.size) :
    Calls Try.prog 5 #[.string a, .string b] w fun e w' => e = .returned (.bool false) ∧ w' = w := by
  unfold maxLen at *
  by_cases h1 : 1048576 < a.size
  · go_enter Try.func5, Try.ntmps5
    go_wp2
    go_ret
    exact ⟨rfl, rfl⟩
  · by_cases h2 : 1048576 < b.size
    all_goals
      go_enter Try.func5, Try.ntmps5
      go_wp2
      go_ret
      exact ⟨rfl, rfl⟩

set_option maxHeartbeats 400000 in
theorem bytes5_yes (a b : ByteArray) (w : World) (h : a.size + b.size ≤ 1048576) :
    Calls Try.prog 5 #[.string a, .string b] w fun e w' => e = .returned (.bool true) ∧ w' = w := by
  go_enter Try.func5, Try.ntmps5
  go_wp2
  go_ret
  exact ⟨rfl, rfl⟩

theorem gdrewN {a b : World} (h : Grown a b) (n : Nat) : Grown a (b.drewN n) := h

end Go.Proofs.Qxb6612473a
