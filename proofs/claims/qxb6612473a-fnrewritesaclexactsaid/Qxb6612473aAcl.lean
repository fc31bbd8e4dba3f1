import Derived.Test.Qxb6612473aRows
import Derived.WalkKit
import Derived.WalkSpells
import Derived.WalkLawsBesides
import Derived.Lib.Bytealg
import Derived.Lib.Strings
namespace Go.Proofs.Qxb6612473a
open Go.RowKit

theorem ret_int {k : IntKind} {a b : Int} (h : a = b) : Ending.returned (.int k a) = .returned (.int k b) := by rw [h]
theorem ret_bool {a b : Bool} (h : a = b) : Ending.returned (.bool a) = .returned (.bool b) := by rw [h]

/-- The ACL directory with its slash, as bytes. -/
def dirL : List UInt8 := [47, 108, 115, 47, 108, 111, 99, 97, 108, 47, 97, 99, 108, 47]
/-- strings.Contains(s, "/"). -/
def hasSl (l : List UInt8) : Bool := decide (0 ≤ Lib.indexByte l 47)
/-- One of the four kinds. -/
def chg (k : ByteArray) : Bool := (k.toList == [111, 112, 101, 110]) || (k.toList == [119, 114, 105, 116, 101]) || (k.toList == [100, 101, 108, 101, 116, 101]) || (k.toList == [99, 111, 108, 108, 101, 99, 116])

set_option maxHeartbeats 400000 in
theorem indexByte_any (s : ByteArray) (c : Int) (w : World) :
    Calls Try.prog 20 #[.string s, .int .u8 c] w fun e w' => e = .returned (.int .i64 (Lib.indexByte s.data.toList c.toNat.toUInt8)) ∧ w' = w := by
  go_enter Try.func20, Try.ntmps20
  go_wp2
  rw [run_callFunc_extern Try.func24 (by kernel_rfl) (by kernel_rfl) (by kernel_rfl) (e := Extern.BytealgIndexByte.indexByte) (by kernel_rfl), Lib.run_indexByteString]
  simp only [Result.andThen]
  rw [Oper.upon_value]
  go_wp2
  go_ret
  exact ⟨rfl, rfl⟩

theorem idx_one (s : ByteArray) (h : ([47] == s.toList) = true) : Lib.indexByte s.data.toList 47 = 0 := by
  rw [Lib.toList_data] at h
  have h2 : ([47] : List UInt8) = s.data.toList := by simpa using h
  rw [← h2]; rfl

set_option maxHeartbeats 400000 in
theorem index_slash (s : ByteArray) (w : World) :
    Calls Try.prog 19 #[.string s, .string ⟨#[47]⟩] w fun e w' => e = .returned (.int .i64 (Lib.indexByte s.data.toList 47)) ∧ w' = w := by
  go_enter Try.func19, Try.ntmps19
  go_wp2_with (first | (go_at_call 20; refine (indexByte_any _ _ _).mono ?_; rintro e w' ⟨rfl, rfl⟩))
  · have h : ([47] == s.toList) = true := by assumption
    go_ret
    exact ⟨ret_int (idx_one s h).symm, rfl⟩
  · go_ret
    exact ⟨rfl, rfl⟩

set_option maxHeartbeats 400000 in
theorem index17_slash (s : ByteArray) (w : World) :
    Calls Try.prog 17 #[.string s, .string ⟨#[47]⟩] w fun e w' => e = .returned (.int .i64 (Lib.indexByte s.data.toList 47)) ∧ w' = w := by
  go_enter Try.func17, Try.ntmps17
  go_wp2_with (go_at_call 19; refine (index_slash _ _).mono ?_; rintro e w' ⟨rfl, rfl⟩)
  go_ret
  exact ⟨rfl, rfl⟩

set_option maxHeartbeats 400000 in
theorem contains_slash (s : ByteArray) (w : World) :
    Calls Try.prog 15 #[.string s, .string ⟨#[47]⟩] w fun e w' => e = .returned (.bool (hasSl s.data.toList)) ∧ w' = w := by
  go_enter Try.func15, Try.ntmps15
  go_wp2_with (go_at_call 17; refine (index17_slash _ _).mono ?_; rintro e w' ⟨rfl, rfl⟩)
  go_ret
  exact ⟨rfl, rfl⟩

set_option maxHeartbeats 400000 in
theorem hasPrefix_any (s p : ByteArray) (w : World) (_hs : s.size ≤ maxLen) (_hp : p.size ≤ maxLen) :
    Calls Try.prog 18 #[.string s, .string p] w fun e w' => e = .returned (.bool (Lib.hasPrefix s.data.toList p.data.toList)) ∧ w' = w := by
  have hr : Hid ((decide (p.size ≤ s.size) && ((s.extract 0 p.size).toList == p.toList)) = Lib.hasPrefix s.data.toList p.data.toList) := Lib.hasPrefix_raw s p
  by_cases hle : p.size ≤ s.size
  · go_enter Try.func18, Try.ntmps18
    go_wp2
    go_ret
    exact ⟨ret_bool (by rw [← hr.out]; simp [hle]), rfl⟩
  · go_enter Try.func18, Try.ntmps18
    go_wp2
    go_ret
    exact ⟨ret_bool (by rw [← hr.out]; simp [hle]), rfl⟩

set_option maxHeartbeats 400000 in
theorem cutPrefix_hit (s p : ByteArray) (w : World) (hs : s.size ≤ maxLen) (hp : p.size ≤ maxLen) (hle : p.size ≤ s.size) (h : Lib.hasPrefix s.data.toList p.data.toList = true) :
    Calls Try.prog 14 #[.string s, .string p] w fun e w' => e = .returned (.tuple #[.string (s.extract p.size s.size), .bool true]) ∧ w' = w := by
  go_enter Try.func14, Try.ntmps14
  go_wp2_with (first | (go_at_call 18; refine (hasPrefix_any _ _ _ hs hp).mono ?_; rintro e w' ⟨rfl, rfl⟩) | go_in)
  go_ret2
  exact ⟨rfl, rfl⟩

set_option maxHeartbeats 400000 in
theorem cutPrefix_miss (s p : ByteArray) (w : World) (hs : s.size ≤ maxLen) (hp : p.size ≤ maxLen) (h : Lib.hasPrefix s.data.toList p.data.toList = false) :
    Calls Try.prog 14 #[.string s, .string p] w fun e w' => e = .returned (.tuple #[.string s, .bool false]) ∧ w' = w := by
  go_enter Try.func14, Try.ntmps14
  go_wp2_with (first | (go_at_call 18; refine (hasPrefix_any _ _ _ hs hp).mono ?_; rintro e w' ⟨rfl, rfl⟩) | go_in)
  go_ret2
  exact ⟨rfl, rfl⟩

theorem dir_le (s : ByteArray) (h : Lib.hasPrefix s.data.toList dirL = true) : 14 ≤ s.size := by
  have h2 := List.isPrefixOf_iff_prefix.1 h
  have h3 := h2.length_le
  rw [Lib.size_eq]; exact h3

theorem cutDir_hit (s : ByteArray) (w : World) (hs : s.size ≤ maxLen) (h : Lib.hasPrefix s.data.toList dirL = true) :
    Calls Try.prog 14 #[.string s, .string ⟨#[47, 108, 115, 47, 108, 111, 99, 97, 108, 47, 97, 99, 108, 47]⟩] w fun e w' => e = .returned (.tuple #[.string (s.extract 14 s.size), .bool true]) ∧ w' = w :=
  cutPrefix_hit s ⟨#[47, 108, 115, 47, 108, 111, 99, 97, 108, 47, 97, 99, 108, 47]⟩ w hs (by decide) (dir_le s h) h

theorem cutDir_miss (s : ByteArray) (w : World) (hs : s.size ≤ maxLen) (h : Lib.hasPrefix s.data.toList dirL = false) :
    Calls Try.prog 14 #[.string s, .string ⟨#[47, 108, 115, 47, 108, 111, 99, 97, 108, 47, 97, 99, 108, 47]⟩] w fun e w' => e = .returned (.tuple #[.string s, .bool false]) ∧ w' = w :=
  cutPrefix_miss s ⟨#[47, 108, 115, 47, 108, 111, 99, 97, 108, 47, 97, 99, 108, 47]⟩ w hs (by decide) h

set_option maxHeartbeats 400000 in
theorem aclOf_miss (s : ByteArray) (w : World) (hs : s.size ≤ maxLen) (h : Lib.hasPrefix s.data.toList dirL = false) :
    Calls Try.prog 13 #[.string s] w fun e w' => e = .returned (.string ⟨#[]⟩) ∧ w' = w := by
  have H : Hid (Lib.hasPrefix s.data.toList dirL = false) := h
  clear h
  go_enter Try.func13, Try.ntmps13
  go_wp2_with (go_at_call 14; refine (cutDir_miss _ _ hs H.out).mono ?_; rintro e w' ⟨rfl, rfl⟩)
  go_ret
  exact ⟨rfl, rfl⟩

set_option maxHeartbeats 400000 in
theorem aclOf_sl (s : ByteArray) (w : World) (hs : s.size ≤ maxLen) (h : Lib.hasPrefix s.data.toList dirL = true) (h2 : hasSl (List.take (s.size - 14) (List.drop 14 s.data.toList)) = true) :
    Calls Try.prog 13 #[.string s] w fun e w' => e = .returned (.string ⟨#[]⟩) ∧ w' = w := by
  have H : Hid (Lib.hasPrefix s.data.toList dirL = true) := h
  clear h
  go_enter Try.func13, Try.ntmps13
  go_wp2_with (first | (go_at_call 14; refine (cutDir_hit _ _ hs H.out).mono ?_; rintro e w' ⟨rfl, rfl⟩) | (go_at_call 15; refine (contains_slash _ _).mono ?_; rintro e w' ⟨rfl, rfl⟩))
  go_ret
  exact ⟨rfl, rfl⟩

set_option maxHeartbeats 400000 in
theorem aclOf_hit (s : ByteArray) (w : World) (hs : s.size ≤ maxLen) (h : Lib.hasPrefix s.data.toList dirL = true) (h2 : hasSl (List.take (s.size - 14) (List.drop 14 s.data.toList)) = false) :
    Calls Try.prog 13 #[.string s] w fun e w' => e = .returned (.string (s.extract 14 s.size)) ∧ w' = w := by
  have H : Hid (Lib.hasPrefix s.data.toList dirL = true) := h
  clear h
  go_enter Try.func13, Try.ntmps13
  go_wp2_with (first | (go_at_call 14; refine (cutDir_hit _ _ hs H.out).mono ?_; rintro e w' ⟨rfl, rfl⟩) | (go_at_call 15; refine (contains_slash _ _).mono ?_; rintro e w' ⟨rfl, rfl⟩))
  go_ret
  exact ⟨rfl, rfl⟩

/-- aclOf, plainly. -/
def aclP (s : ByteArray) : ByteArray := if Lib.hasPrefix s.data.toList dirL = true ∧ hasSl (List.take (s.size - 14) (List.drop 14 s.data.toList)) = false then s.extract 14 s.size else ⟨#[]⟩

theorem aclOf_any (s : ByteArray) (w : World) (hs : s.size ≤ maxLen) :
    Calls Try.prog 13 #[.string s] w fun e w' => e = .returned (.string (aclP s)) ∧ w' = w := by
  cases h : Lib.hasPrefix s.data.toList dirL
  · rw [show aclP s = ⟨#[]⟩ by simp [aclP, h]]; exact aclOf_miss s w hs h
  · cases h2 : hasSl (List.take (s.size - 14) (List.drop 14 s.data.toList))
    · rw [show aclP s = s.extract 14 s.size by simp [aclP, h, h2]]; exact aclOf_hit s w hs h h2
    · rw [show aclP s = ⟨#[]⟩ by simp [aclP, h, h2]]; exact aclOf_sl s w hs h h2

/-- 'aclOf(s) != ""'. -/
def isAcl (s : ByteArray) : Bool := !((aclP s).toList.isEmpty)

set_option maxHeartbeats 400000 in
theorem rewrites_any (k s : ByteArray) (b : Nat) (w : World) (hs : s.size ≤ maxLen) (hk : w.cell? ⟨b, 0, none⟩ = some (.string k)) (hn : w.cell? ⟨b, 9, none⟩ = some (.string s)) :
    Calls Try.prog 11 #[.pointer (some ⟨b, 0, none⟩)] w fun e w' => e = .returned (.bool (chg k && isAcl s)) ∧ w' = w := by
  cases h1 : k.toList == [111, 112, 101, 110] <;> cases h2 : k.toList == [119, 114, 105, 116, 101] <;> cases h3 : k.toList == [100, 101, 108, 101, 116, 101] <;> cases h4 : k.toList == [99, 111, 108, 108, 101, 99, 116]
  all_goals
    go_enter Try.func11, Try.ntmps11
    go_wp2_with (go_at_call 13; refine (aclOf_any _ _ hs).mono ?_; rintro e w' ⟨rfl, rfl⟩)
    go_ret
    exact ⟨ret_bool (by simp [chg, isAcl, h1, h2, h3, h4]), rfl⟩

set_option maxHeartbeats 400000 in
theorem zz_any (k s : ByteArray) (w : World) (hs : s.size ≤ maxLen) :
    Calls Try.prog 6 #[.string k, .string s] w fun e w' => e = .returned (.bool (chg k && isAcl s)) ∧ Grown w w' := by
  go_enter Try.func6, Try.ntmps6
  go_wp2_with (go_at_call 11; refine (rewrites_any k s w.heap.size _ hs ?_ ?_).mono ?_; rotate_left; rotate_left; rintro e w' ⟨rfl, rfl⟩)
  · go_ret
    exact ⟨rfl, by repeat (first | exact Grown.refl _ | apply Grown.drew | apply Grown.alloc)⟩
  · go_simp
  · go_simp

set_option maxHeartbeats 400000 in
theorem kind_any (k : ByteArray) (w : World) :
    Calls Try.prog 7 #[.string k] w fun e w' => e = .returned (.bool (chg k)) ∧ w' = w := by
  cases h1 : k.toList == [111, 112, 101, 110] <;> cases h2 : k.toList == [119, 114, 105, 116, 101] <;> cases h3 : k.toList == [100, 101, 108, 101, 116, 101] <;> cases h4 : k.toList == [99, 111, 108, 108, 101, 99, 116]
  all_goals
    go_enter Try.func7, Try.ntmps7
    go_wp2
    go_ret
    exact ⟨ret_bool (by simp [chg, h1, h2, h3, h4]), rfl⟩

def sls (l : List UInt8) : Nat := l.count 47
theorem sls_le (l : List UInt8) : sls l ≤ l.length := List.count_le_length
theorem sls_app (s : ByteArray) (k : Nat) (h : k < s.size) : sls (s.data.toList.take (k + 1)) = sls (s.data.toList.take k) + if s[k] = 47 then 1 else 0 := by
  have e : s.data.toList.take (k + 1) = s.data.toList.take k ++ [s[k]] := by
    rw [List.take_succ_eq_append_getElem (by simpa using h)]; rfl
  rw [e]
  unfold sls
  rw [List.count_append, List.count_singleton]
  by_cases hc : s[k] = 47 <;> simp [hc]
theorem sls_yes (s : ByteArray) (k : Nat) (h : k < s.size) (hc : ((s[k].toNat : Int) == 47) = true) : (sls (s.data.toList.take k) : Int) + 1 = (sls (s.data.toList.take (k + 1)) : Nat) := by
  have h2 : (s[k].toNat : Int) = 47 := by simpa using hc
  have h3 : s[k] = 47 := UInt8.toNat_inj.1 (by show s[k].toNat = 47; omega)
  rw [sls_app s k h, if_pos h3]; rfl
theorem sls_no (s : ByteArray) (k : Nat) (h : k < s.size) (hc : ((s[k].toNat : Int) == 47) = false) : (sls (s.data.toList.take k) : Int) = (sls (s.data.toList.take (k + 1)) : Nat) := by
  have h2 : ¬ (s[k].toNat : Int) = 47 := by simpa using hc
  have h3 : ¬ s[k] = 47 := fun e => h2 (by rw [e]; rfl)
  rw [sls_app s k h, if_neg h3]; rfl
theorem val_int {k : IntKind} {a b : Int} (h : a = b) : Value.int k a = Value.int k b := by rw [h]

set_option maxHeartbeats 400000 in
theorem slashes_any (s : ByteArray) (w : World) (hs : s.size ≤ maxLen) :
    Calls Try.prog 10 #[.string s] w fun e w' => e = .returned (.int .i64 (sls s.data.toList)) ∧ w' = w := by
  unfold maxLen at hs
  go_enter Try.func10, Try.ntmps10
  go_wp2
  go_loop [3, 4] (fun n i => ∃ k : Nat, k ≤ s.size ∧ i = .int .i64 k ∧ n = .int .i64 (sls (s.data.toList.take k))) (fun _ i => s.size - (intOf i).toNat)
  case atStart => exact ⟨0, Nat.zero_le _, rfl, rfl⟩
  case round =>
    obtain ⟨k, hk, rfl, rfl⟩ := hrel
    have hd := sls_le (s.data.toList.take k)
    have hl : (s.data.toList.take k).length ≤ k := List.length_take_le _ _
    by_cases hlt : k < s.size
    · go_wp2
      all_goals
        go_round
        case rel => exact ⟨k + 1, by omega, by go_num, val_int (by first | exact sls_yes s k hlt ‹_› | exact sls_no s k hlt ‹_›)⟩
        case measure => simp [intOf]; omega
    · go_wp2
      go_ret
      exact ⟨ret_int (by rw [List.take_of_length_le (by simp; omega)]), rfl⟩

set_option maxHeartbeats 400000 in
theorem bytes9_no (a b : ByteArray) (w : World) (_ha : a.size ≤ maxLen) (_hb : b.size ≤ maxLen) (h : 1048576 < a.size + b.size) :
    Calls Try.prog 9 #[.string a, .string b] w fun e w' => e = .returned (.bool false) ∧ w' = w := by
  unfold maxLen at *
  by_cases h1 : 1048576 < a.size
  · go_enter Try.func9, Try.ntmps9
    go_wp2
    go_ret
    exact ⟨rfl, rfl⟩
  · by_cases h2 : 1048576 < b.size
    all_goals
      go_enter Try.func9, Try.ntmps9
      go_wp2
      go_ret
      exact ⟨rfl, rfl⟩

set_option maxHeartbeats 400000 in
theorem bytes9_yes (a b : ByteArray) (w : World) (h : a.size + b.size ≤ 1048576) :
    Calls Try.prog 9 #[.string a, .string b] w fun e w' => e = .returned (.bool true) ∧ w' = w := by
  go_enter Try.func9, Try.ntmps9
  go_wp2
  go_ret
  exact ⟨rfl, rfl⟩
end Go.Proofs.Qxb6612473a
