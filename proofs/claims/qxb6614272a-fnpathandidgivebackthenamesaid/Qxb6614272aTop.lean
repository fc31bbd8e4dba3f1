import Derived.Test.Qxb6614272aPath
namespace Go.Proofs.Qxb6614272a
open Go.RowKit

set_option maxHeartbeats 400000 in
theorem bytes4_no (a b : ByteArray) (w : World) (_ha : a.size ≤ maxLen) (_hb : b.size ≤ maxLen) (h : 1048576 < a.size + b.size) :
    Calls Try.prog 4 #[.string a, .string b] w fun e w' => e = .returned (.bool false) ∧ w' = w := by
  unfold maxLen at *
  by_cases h1 : 1048576 < a.size
  · go_enter Try.func4, Try.ntmps4
    go_wp2
    go_ret
    exact ⟨rfl, rfl⟩
  · by_cases h2 : 1048576 < b.size
    all_goals
      go_enter Try.func4, Try.ntmps4
      go_wp2
      go_ret
      exact ⟨rfl, rfl⟩

set_option maxHeartbeats 400000 in
theorem bytes4_yes (a b : ByteArray) (w : World) (h : a.size + b.size ≤ 1048576) :
    Calls Try.prog 4 #[.string a, .string b] w fun e w' => e = .returned (.bool true) ∧ w' = w := by
  go_enter Try.func4, Try.ntmps4
  go_wp2
  go_ret
  exact ⟨rfl, rfl⟩

set_option maxHeartbeats 1000000 in
theorem top_early (a0 a1 : ByteArray) (w : World) (h : a0.size + a1.size ≤ 1048576) (h2 : 65536 < a0.size ∨ 65536 < a1.size) :
    Calls Try.prog 3 #[.string a0, .string a1] w fun e w' => e = .returned (.bool true) ∧ Grown w w' := by
  by_cases h3 : 65536 < a0.size
  · go_enter Try.func3, Try.ntmps3
    go_wp2_with (go_at_call 4; refine (bytes4_yes _ _ _ h).mono ?_; rintro e w' ⟨rfl, rfl⟩)
    go_ret
    exact ⟨rfl, Grown.refl _⟩
  · have h4 : 65536 < a1.size := by omega
    clear h2
    go_enter Try.func3, Try.ntmps3
    go_wp2_with (go_at_call 4; refine (bytes4_yes _ _ _ h).mono ?_; rintro e w' ⟨rfl, rfl⟩)
    go_ret
    exact ⟨rfl, Grown.refl _⟩

/-- The byte c stands in s. -/
def Has (s : ByteArray) (c : Int) : Prop := ∃ i, ∃ h : i < s.size, (s[i].toNat : Int) = c
theorem not_has {s : ByteArray} {c : Int} (h : ¬ Has s c) : ∀ i (h : i < s.size), ¬ (s[i].toNat : Int) = c := fun i hi he => h ⟨i, hi, he⟩
theorem calls_yes (s : ByteArray) (c : Int) (hs : s.size ≤ 65536) (h : Has s c) (w : World) : Calls Try.prog 5 #[.string s, .int .u8 c] w fun e w' => e = .returned (.bool true) ∧ w' = w :=
  has_yes s c w (by unfold maxLen; omega) h
theorem calls_no (s : ByteArray) (c : Int) (hs : s.size ≤ 65536) (h : ¬ Has s c) (w : World) : Calls Try.prog 5 #[.string s, .int .u8 c] w fun e w' => e = .returned (.bool false) ∧ w' = w :=
  has_no s c w (by unfold maxLen; omega) (not_has h)

set_option maxHeartbeats 1000000 in
theorem top_has (a0 a1 : ByteArray) (w : World) (h0 : a0.size ≤ 65536) (h1 : a1.size ≤ 65536) (h2 : Has a1 47 ∨ Has a1 92 ∨ Has a0 92) :
    Calls Try.prog 3 #[.string a0, .string a1] w fun e w' => e = .returned (.bool true) ∧ Grown w w' := by
  by_cases q1 : Has a1 47
  · have C1 := hid (calls_yes a1 47 h1 q1)
    clear h2 q1
    go_enter Try.func3, Try.ntmps3
    go_wp2_with (first | (go_at_call 4; refine (bytes4_yes _ _ _ (by omega)).mono ?_; rintro e w' ⟨rfl, rfl⟩) | (go_at_call 5; refine (Hid.out C1 _).mono ?_; rintro e w' ⟨rfl, rfl⟩))
    go_ret
    exact ⟨rfl, Grown.refl _⟩
  · by_cases q2 : Has a1 92
    · have C1 := hid (calls_no a1 47 h1 q1)
      have C2 := hid (calls_yes a1 92 h1 q2)
      clear h2 q1 q2
      go_enter Try.func3, Try.ntmps3
      go_wp2_with (go_at_call 4; refine (bytes4_yes _ _ _ (by omega)).mono ?_; rintro e w' ⟨rfl, rfl⟩)
      refine (Hid.out C1 _).mono ?_
      rintro e w' ⟨rfl, rfl⟩
      go_wp2_with fail
      refine (Hid.out C2 _).mono ?_
      rintro e w' ⟨rfl, rfl⟩
      go_wp2
      go_ret
      exact ⟨rfl, Grown.refl _⟩
    · have q3 : Has a0 92 := by rcases h2 with h | h | h; exact absurd h q1; exact absurd h q2; exact h
      have C1 := hid (calls_no a1 47 h1 q1)
      have C2 := hid (calls_no a1 92 h1 q2)
      have C3 := hid (calls_yes a0 92 h0 q3)
      clear h2 q1 q2 q3
      go_enter Try.func3, Try.ntmps3
      go_wp2_with (go_at_call 4; refine (bytes4_yes _ _ _ (by omega)).mono ?_; rintro e w' ⟨rfl, rfl⟩)
      refine (Hid.out C1 _).mono ?_
      rintro e w' ⟨rfl, rfl⟩
      go_wp2_with fail
      refine (Hid.out C2 _).mono ?_
      rintro e w' ⟨rfl, rfl⟩
      go_wp2_with fail
      refine (Hid.out C3 _).mono ?_
      rintro e w' ⟨rfl, rfl⟩
      go_wp2
      go_ret
      exact ⟨rfl, Grown.refl _⟩

set_option maxHeartbeats 1000000 in
theorem top_main (a0 a1 : ByteArray) (w : World) (h0 : a0.size ≤ 65536) (h1 : a1.size ≤ 65536) (q1 : ¬ Has a1 47) (q2 : ¬ Has a1 92) (q3 : ¬ Has a0 92) :
    Calls Try.prog 3 #[.string a0, .string a1] w fun e w' => e = .returned (.bool true) ∧ Grown w w' := by
  obtain ⟨P, hP⟩ : ∃ P, a0 ++ ⟨#[47]⟩ ++ a1 ++ ⟨#[46, 106, 115, 111, 110, 108]⟩ = P := ⟨_, rfl⟩
  have hPs := P_size a0 a1 P hP
  have hP7 : 7 ≤ P.size := by omega
  have hPb : P.size ≤ 1048576 := by omega
  have C8 := hid (fun (b : Nat) (w : World) (hc : w.cell? ⟨b, 1, none⟩ = some (.string P)) (hne : P.toList.isEmpty = false) => id8 P a1 a0.size b w (by omega) (by omega) (P_slash a0 a1 P hP (by omega)) (P_no a0 a1 P hP (not_has q1)) (P_suf a0 a1 P hP) (P_name a0 a1 P hP) hc hne)
  have hne : P.toList.isEmpty = false := by
    rw [Lib.toList_data]
    cases hh : P.data.toList with
    | nil => have := Lib.size_eq P; rw [hh, List.length_nil] at this; omega
    | cons a l => rfl
  have C1 := hid (calls_no a1 47 h1 q1)
  have C2 := hid (calls_no a1 92 h1 q2)
  have C3 := hid (calls_no a0 92 h0 q3)
  clear q1 q2 q3 hPs
  go_enter Try.func3, Try.ntmps3
  go_wp2_with (go_at_call 4; refine (bytes4_yes _ _ _ (by omega)).mono ?_; rintro e w' ⟨rfl, rfl⟩)
  refine (Hid.out C1 _).mono ?_
  rintro e w' ⟨rfl, rfl⟩
  go_wp2_with fail
  refine (Hid.out C2 _).mono ?_
  rintro e w' ⟨rfl, rfl⟩
  go_wp2_with fail
  refine (Hid.out C3 _).mono ?_
  rintro e w' ⟨rfl, rfl⟩
  go_wp2_with (first | (go_at_call 8; refine (Hid.out C8 _ _ (by exact World.cell?_alloc_new _ _ _ 1) hne).mono ?_; rintro e w' ⟨rfl, rfl⟩) | (go_at_call 6; go_in) | (go_at_call 7; go_in))
  all_goals
    go_ret
    exact ⟨rfl, by first | exact Grown.refl _ | exact (Grown.refl _).alloc _ _⟩
end Go.Proofs.Qxb6614272a
