import Derived.Test.Qxb6614272aRows
import Derived.WalkKit
import Derived.WalkSpells
import Derived.WalkLawsBesides
import Derived.Lib.Strings
namespace Go.Proofs.Qxb6614272a
open Go.RowKit

theorem hid {p : Prop} (h : p) : Hid p := h
theorem ret_bool {a b : Bool} (h : a = b) : Ending.returned (.bool a) = .returned (.bool b) := by rw [h]
theorem ext_all (s : ByteArray) : s.extract 0 s.size = s := by
  apply ByteArray.ext
  apply Array.toList_inj.1
  rw [Lib.extract_data, List.drop_zero, Nat.sub_zero]
  exact List.take_of_length_le (by rw [← Lib.size_eq]; exact Nat.le_refl _)

set_option maxHeartbeats 400000 in
theorem volume (s : ByteArray) (w : World) : Calls Try.prog 15 #[.string s] w fun e w' => e = .returned (.string ⟨#[]⟩) ∧ w' = w := by
  go_enter Try.func15, Try.ntmps15
  go_wp2
  go_ret
  exact ⟨rfl, rfl⟩

set_option maxHeartbeats 1000000 in
theorem base12 (s : ByteArray) (d : Nat) (w : World) (hm : s.size ≤ 1099511627776) (hd : d + 1 < s.size) (h0 : (s[d]'(by omega)).toNat = 47) (hno : ∀ i (h : i < s.size), d < i → ¬ (s[i].toNat = 47)) :
    Calls Try.prog 12 #[.string s] w fun e w' => e = .returned (.string (s.extract (d + 1) s.size)) ∧ w' = w := by
  have hE := ext_all s
  have HN := hid hno
  have H0 := hid h0
  have hlast : ((47 : Int) == ((s[s.size - 1]'(by omega)).toNat : Int)) = false := by
    rw [beq_eq_false_iff_ne]
    intro h
    have h1 := hno (s.size - 1) (by omega) (by omega)
    omega
  have hne : s.toList.isEmpty = false := by
    rw [Lib.toList_data]
    cases hh : s.data.toList with
    | nil => have := Lib.size_eq s; rw [hh, List.length_nil] at this; omega
    | cons a l => rfl
  clear hno h0
  go_enter Try.func12, Try.ntmps12
  go_wp2
  go_loop [0] (fun v => v = .string s) (fun _ => 0)
  case atStart => rfl
  case round =>
    subst hrel
    go_wp2_with (first | (go_at_call 15; refine (volume _ _).mono ?_; rintro e w' ⟨rfl, rfl⟩) | go_in)
    go_loop [3] (fun v => ∃ k : Nat, d ≤ k ∧ k < s.size ∧ v = .int .i64 k) (fun v => (intOf v).toNat)
    case atStart => exact ⟨s.size - 1, by omega, by omega, by go_num⟩
    case round =>
      obtain ⟨k, hk0, hk1, rfl⟩ := hrel
      by_cases hlt : d < k
      · have hck : ((47 : Int) == (s[k].toNat : Int)) = false := by
          rw [beq_eq_false_iff_ne]
          intro h
          have h1 := (Hid.out HN) k hk1 hlt
          omega
        go_wp2
        go_round
        case rel => exact ⟨k - 1, by omega, by omega, by go_num⟩
        case measure => simp [intOf]; omega
      · obtain rfl : k = d := by omega
        have hck : ((47 : Int) == (s[k].toNat : Int)) = true := by
          rw [beq_iff_eq]
          have h1 := Hid.out H0
          omega
        have hne2 : (s.extract (k + 1) s.size).toList.isEmpty = false := by
          rw [Lib.extract_toList]
          cases hh : List.take (s.size - (k + 1)) (List.drop (k + 1) s.data.toList) with
          | nil =>
            have h1 := congrArg List.length hh
            rw [List.length_take, List.length_drop, ← Lib.size_eq] at h1
            simp at h1; omega
          | cons a l => rfl
        go_wp2
        go_ret
        exact ⟨rfl, rfl⟩

set_option maxHeartbeats 400000 in
theorem base10 (s : ByteArray) (d : Nat) (w : World) (hm : s.size ≤ 1099511627776) (hd : d + 1 < s.size) (h0 : (s[d]'(by omega)).toNat = 47) (hno : ∀ i (h : i < s.size), d < i → ¬ (s[i].toNat = 47)) :
    Calls Try.prog 10 #[.string s] w fun e w' => e = .returned (.string (s.extract (d + 1) s.size)) ∧ w' = w := by
  have C := hid (base12 s d w hm hd h0 hno)
  clear h0 hno
  go_enter Try.func10, Try.ntmps10
  go_wp2_with (go_at_call 12; refine (Hid.out C).mono ?_; rintro e w' ⟨rfl, rfl⟩)
  go_ret
  exact ⟨rfl, rfl⟩

set_option maxHeartbeats 400000 in
/-- strings.TrimSuffix where the suffix is there. -/
theorem trim9 (s p : ByteArray) (w : World) (hs : s.size ≤ 1099511627776) (hle : p.size ≤ s.size) (h : ((s.extract (s.size - p.size) s.size).toList == p.toList) = true) :
    Calls Try.prog 9 #[.string s, .string p] w fun e w' => e = .returned (.string (s.extract 0 (s.size - p.size))) ∧ w' = w := by
  go_enter Try.func9, Try.ntmps9
  go_wp2
  go_ret
  exact ⟨rfl, rfl⟩

set_option maxHeartbeats 400000 in
theorem has_no (s : ByteArray) (c : Int) (w : World) (hs : s.size ≤ maxLen) (hno : ∀ i (h : i < s.size), ¬ (s[i].toNat : Int) = c) :
    Calls Try.prog 5 #[.string s, .int .u8 c] w fun e w' => e = .returned (.bool false) ∧ w' = w := by
  unfold maxLen at hs
  have HN := hid hno
  clear hno
  go_enter Try.func5, Try.ntmps5
  go_wp2
  go_loop [5] (fun i => ∃ k : Nat, k ≤ s.size ∧ i = .int .i64 k) (fun i => s.size - (intOf i).toNat)
  case atStart => exact ⟨0, Nat.zero_le _, rfl⟩
  case round =>
    obtain ⟨k, hk, rfl⟩ := hrel
    by_cases hlt : k < s.size
    · have hc : ((s[k].toNat : Int) == c) = false := by rw [beq_eq_false_iff_ne]; exact Hid.out HN k hlt
      go_wp2
      go_round
      case rel => exact ⟨k + 1, by omega, by go_num⟩
      case measure => simp [intOf]; omega
    · go_wp2
      go_ret
      exact ⟨rfl, rfl⟩

set_option maxHeartbeats 400000 in
theorem has_yes (s : ByteArray) (c : Int) (w : World) (hs : s.size ≤ maxLen) (hyes : ∃ i, ∃ h : i < s.size, (s[i].toNat : Int) = c) :
    Calls Try.prog 5 #[.string s, .int .u8 c] w fun e w' => e = .returned (.bool true) ∧ w' = w := by
  unfold maxLen at hs
  obtain ⟨n, hn, he⟩ := hyes
  have HE := hid he
  clear he
  go_enter Try.func5, Try.ntmps5
  go_wp2
  go_loop [5] (fun i => ∃ k : Nat, k ≤ n ∧ i = .int .i64 k) (fun i => n - (intOf i).toNat)
  case atStart => exact ⟨0, Nat.zero_le _, rfl⟩
  case round =>
    obtain ⟨k, hk, rfl⟩ := hrel
    cases hc : ((s[k]'(by omega)).toNat : Int) == c
    · have hne : k ≠ n := fun e => by subst e; rw [Hid.out HE] at hc; simp at hc
      go_wp2
      go_round
      case rel => exact ⟨k + 1, by omega, by go_num⟩
      case measure => simp [intOf]; omega
    · go_wp2
      go_ret
      exact ⟨rfl, rfl⟩

set_option maxHeartbeats 400000 in
theorem id8 (P N : ByteArray) (d b : Nat) (w : World) (hm : P.size ≤ 1099511627776) (hd : d + 7 ≤ P.size) (h0 : (P[d]'(by omega)).toNat = 47) (hno : ∀ i (h : i < P.size), d < i → ¬ (P[i].toNat = 47))
    (hsuf : (((P.extract (d + 1) P.size).extract ((P.extract (d + 1) P.size).size - 6) (P.extract (d + 1) P.size).size).toList == [46, 106, 115, 111, 110, 108]) = true)
    (hN : (P.extract (d + 1) P.size).extract 0 ((P.extract (d + 1) P.size).size - 6) = N) (hc : w.cell? ⟨b, 1, none⟩ = some (.string P)) (hne : P.toList.isEmpty = false) :
    Calls Try.prog 8 #[.pointer (some ⟨b, 0, none⟩)] w fun e w' => e = .returned (.string N) ∧ w' = w := by
  have hsz : (P.extract (d + 1) P.size).size = P.size - (d + 1) := by rw [Lib.size_eq, Lib.extract_data, List.length_take, List.length_drop, ← Lib.size_eq]; omega
  have C10 := hid (fun w => base10 P d w hm (by omega) h0 hno)
  have C9 : Hid (∀ w, Calls Try.prog 9 #[.string (P.extract (d + 1) P.size), .string ⟨#[46, 106, 115, 111, 110, 108]⟩] w fun e w' => e = .returned (.string N) ∧ w' = w) := by
    intro w
    rw [← hN]
    exact trim9 (P.extract (d + 1) P.size) ⟨#[46, 106, 115, 111, 110, 108]⟩ w (by omega) (by rw [hsz]; show 6 ≤ _; omega) (by rw [Lib.toList_data ⟨#[46, 106, 115, 111, 110, 108]⟩]; exact hsuf)
  clear h0 hno hsuf hN hsz
  go_enter Try.func8, Try.ntmps8
  go_wp2_with (first | (go_at_call 10; refine (Hid.out C10 _).mono ?_; rintro e w' ⟨rfl, rfl⟩) | (go_at_call 9; refine (Hid.out C9 _).mono ?_; rintro e w' ⟨rfl, rfl⟩))
  go_ret
  exact ⟨rfl, rfl⟩

theorem app_data (a b : ByteArray) : (a ++ b).data.toList = a.data.toList ++ b.data.toList := by simp
theorem byte_get (s : ByteArray) (i : Nat) (h : i < s.size) : s.data.toList[i]? = some s[i] := by
  have h2 : i < s.data.toList.length := by rw [← Lib.size_eq]; exact h
  rw [List.getElem?_eq_getElem h2]; rfl

theorem P_list (a0 a1 P : ByteArray) (hP : a0 ++ ⟨#[47]⟩ ++ a1 ++ ⟨#[46, 106, 115, 111, 110, 108]⟩ = P) : P.data.toList = a0.data.toList ++ [47] ++ (a1.data.toList ++ [46, 106, 115, 111, 110, 108]) := by
  rw [← hP, app_data, app_data, app_data]; simp
theorem P_size (a0 a1 P : ByteArray) (hP : a0 ++ ⟨#[47]⟩ ++ a1 ++ ⟨#[46, 106, 115, 111, 110, 108]⟩ = P) : P.size = a0.size + 7 + a1.size := by
  rw [Lib.size_eq, P_list a0 a1 P hP, Lib.size_eq a0, Lib.size_eq a1]; simp; omega
theorem P_slash (a0 a1 P : ByteArray) (hP : a0 ++ ⟨#[47]⟩ ++ a1 ++ ⟨#[46, 106, 115, 111, 110, 108]⟩ = P) (h : a0.size < P.size) : P[a0.size].toNat = 47 := by
  have h1 := byte_get P a0.size h
  rw [P_list a0 a1 P hP, List.append_assoc, List.getElem?_append_right (by rw [← Lib.size_eq]; omega), ← Lib.size_eq] at h1
  simp at h1
  rw [← h1]; rfl
theorem P_no (a0 a1 P : ByteArray) (hP : a0 ++ ⟨#[47]⟩ ++ a1 ++ ⟨#[46, 106, 115, 111, 110, 108]⟩ = P) (hno : ∀ i (h : i < a1.size), ¬ (a1[i].toNat : Int) = 47) :
    ∀ i (h : i < P.size), a0.size < i → ¬ (P[i].toNat = 47) := by
  intro i h hi he
  have h1 := byte_get P i h
  rw [P_list a0 a1 P hP, List.getElem?_append_right (by simp; omega)] at h1
  have h2 : (a1.data.toList ++ [46, 106, 115, 111, 110, 108])[i - (a0.data.toList ++ [47]).length]? = some P[i] := h1
  have hmem := List.mem_of_getElem? h2
  rw [List.mem_append] at hmem
  rcases hmem with hm | hm
  · obtain ⟨j, hj, hj2⟩ := List.getElem_of_mem hm
    have hj3 : j < a1.size := by rw [Lib.size_eq]; exact hj
    have hj4 : a1[j] = P[i] := hj2
    exact hno j hj3 (by rw [hj4, he]; rfl)
  · simp at hm
    rcases hm with hm | hm | hm | hm | hm | hm <;> rw [hm] at he <;> simp at he
theorem P_tail (a0 a1 P : ByteArray) (hP : a0 ++ ⟨#[47]⟩ ++ a1 ++ ⟨#[46, 106, 115, 111, 110, 108]⟩ = P) : (P.extract (a0.size + 1) P.size).data.toList = a1.data.toList ++ [46, 106, 115, 111, 110, 108] := by
  have hl : (a0.data.toList ++ [47]).length = a0.size + 1 := by simp
  rw [Lib.extract_data, Lib.size_eq P, P_list a0 a1 P hP, ← hl, List.drop_left]
  exact List.take_of_length_le (by simp; omega)
theorem P_suf (a0 a1 P : ByteArray) (hP : a0 ++ ⟨#[47]⟩ ++ a1 ++ ⟨#[46, 106, 115, 111, 110, 108]⟩ = P) :
    (((P.extract (a0.size + 1) P.size).extract ((P.extract (a0.size + 1) P.size).size - 6) (P.extract (a0.size + 1) P.size).size).toList == [46, 106, 115, 111, 110, 108]) = true := by
  have hq := P_tail a0 a1 P hP
  have hl : (P.extract (a0.size + 1) P.size).size = a1.data.toList.length + 6 := by rw [Lib.size_eq, hq]; simp
  rw [Lib.extract_toList, hq, hl, show a1.data.toList.length + 6 - 6 = a1.data.toList.length by omega, List.drop_left, show a1.data.toList.length + 6 - a1.data.toList.length = 6 by omega]
  rfl
theorem P_name (a0 a1 P : ByteArray) (hP : a0 ++ ⟨#[47]⟩ ++ a1 ++ ⟨#[46, 106, 115, 111, 110, 108]⟩ = P) :
    (P.extract (a0.size + 1) P.size).extract 0 ((P.extract (a0.size + 1) P.size).size - 6) = a1 := by
  have hq := P_tail a0 a1 P hP
  have hl : (P.extract (a0.size + 1) P.size).size = a1.data.toList.length + 6 := by rw [Lib.size_eq, hq]; simp
  apply ByteArray.ext
  apply Array.toList_inj.1
  rw [Lib.extract_data, hq, hl, show a1.data.toList.length + 6 - 6 - 0 = a1.data.toList.length by omega, List.drop_zero, List.take_left]
end Go.Proofs.Qxb6614272a
