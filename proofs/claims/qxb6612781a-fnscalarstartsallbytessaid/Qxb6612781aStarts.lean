import Derived.Test.Qxb6612781aRows
import Derived.WalkKit
import Derived.WalkSpells
import Derived.WalkLawsBesides
import Derived.Lib.BytesEntry
import Derived.Lib.SlBytesConst
namespace Go.Proofs.Qxb6612781a
open Go.RowKit

theorem valInt {k : IntKind} {a b : Int} (h : a = b) : Value.int k a = Value.int k b := by rw [h]
theorem ret_bool {a b : Bool} (h : a = b) : Ending.returned (.bool a) = .returned (.bool b) := by rw [h]
/-- The ten bytes after which a plain scalar may start. -/
def ten : List Int := [32, 9, 13, 10, 91, 93, 123, 125, 44, 58]

set_option maxHeartbeats 400000 in
theorem index15 (b o n c : Nat) (xs : List Int) (cv : Int) (w : World) (hx : xs.length = n) (hc : ∀ i, i < n → w.cell? ⟨b, o + i, none⟩ = some (.int .u8 (xs.getD i 0))) :
    Calls Try.prog 15 #[.slice (some ⟨b, o, none⟩) n c, .int .u8 cv] w fun e w' => e = .returned (.int .i64 (Lib.indexByte (Lib.bytesOf xs) cv.toNat.toUInt8)) ∧ w' = w := by
  go_enter Try.func15, Try.ntmps15
  go_wp2
  rw [run_callFunc_extern Try.func16 (by kernel_rfl) (by kernel_rfl) (by kernel_rfl) (e := Extern.BytealgIndexByte.indexByte) (by kernel_rfl), Lib.run_indexByteSlice w b o n c xs hx hc cv]
  simp only [Result.andThen]
  rw [Oper.upon_value]
  go_wp2
  go_ret
  exact ⟨rfl, rfl⟩

theorem ten_cells (w : World) : ∀ i, i < 10 → (w.alloc (.cells #[.int .u8 32, .int .u8 9, .int .u8 13, .int .u8 10, .int .u8 91, .int .u8 93, .int .u8 123, .int .u8 125, .int .u8 44, .int .u8 58] 5 (10, 11))).cell? ⟨w.heap.size, 0 + i, none⟩ = some (.int .u8 (ten.getD i 0)) := by
  intro i hi
  rw [Nat.zero_add, World.cell?_alloc_mark, show (#[.int .u8 32, .int .u8 9, .int .u8 13, .int .u8 10, .int .u8 91, .int .u8 93, .int .u8 123, .int .u8 125, .int .u8 44, .int .u8 58] : Array Value) = (ten.map (Value.int .u8)).toArray from rfl]
  have hl : i < ten.length := hi
  rw [List.getElem?_toArray, List.getElem?_map, List.getElem?_eq_getElem hl, List.getD_eq_getElem?_getD, List.getElem?_eq_getElem hl]; rfl

/-- 'scalarStarts' at the byte i. -/
def stB (i : Nat) : Bool := decide (0 ≤ Lib.indexByte (Lib.bytesOf ten) (i : Int).toNat.toUInt8) || decide (128 ≤ (i : Int))

set_option maxHeartbeats 400000 in
theorem starts6 (c : Nat) (w : World) :
    Calls Try.prog 6 #[.int .u8 c] w fun e w' => e = .returned (.bool (stB c)) ∧ Below w.heap.size w w' := by
  have kc := fun (w : World) (C : Array Value) (n c : Nat) => Lib.run_convert_bytes_const (P := Try.prog) w 34 5 C n c Try.underlying34 Try.underlying5
  obtain ⟨r, hr⟩ : ∃ r, Hid (Lib.indexByte (Lib.bytesOf ten) (c : Int).toNat.toUInt8 = r) := ⟨_, rfl⟩
  have hst : Hid (stB c = (decide (0 ≤ r) || decide (128 ≤ (c : Int)))) := by unfold stB; rw [hr.out]; rfl
  by_cases h0 : 0 ≤ r <;> by_cases h1 : 128 ≤ (c : Int)
  all_goals
    go_enter Try.func6, Try.ntmps6
    go_wp2_with (first | (go_at_call 15; refine (index15 _ _ _ _ ten _ _ rfl (ten_cells w)).mono ?_; rintro e w' ⟨rfl, rfl⟩; rw [hr.out]) | go_in)
    go_ret
    exact ⟨ret_bool (hst.out.trans (by simp [h0, h1])).symm, (Below.refl _ _).alloc (Nat.le_refl _) _⟩

/-- 'zzIsWordByte' at the byte i. -/
def wdB (i : Nat) : Bool := (decide (97 ≤ (i : Int)) && decide ((i : Int) ≤ 122)) || (decide (65 ≤ (i : Int)) && decide ((i : Int) ≤ 90)) || (decide (48 ≤ (i : Int)) && decide ((i : Int) ≤ 57)) ||
  ((i : Int) == 45) || ((i : Int) == 43) || ((i : Int) == 46) || ((i : Int) == 95) || ((i : Int) == 47) || ((i : Int) == 39) || ((i : Int) == 34)

set_option maxHeartbeats 400000 in
theorem word7_no (c : Nat) (w : World) (h : wdB c = false) :
    Calls Try.prog 7 #[.int .u8 c] w fun e w' => e = .returned (.bool false) ∧ w' = w := by
  simp only [wdB, Bool.or_eq_false_iff] at h
  obtain ⟨⟨⟨⟨⟨⟨⟨⟨⟨h1, h2⟩, h3⟩, h4⟩, h5⟩, h6⟩, h7⟩, h8⟩, h9⟩, h10⟩ := h
  have q1 : ¬ (97 ≤ (c : Int) ∧ (c : Int) ≤ 122) := by simpa using h1
  have q2 : ¬ (65 ≤ (c : Int) ∧ (c : Int) ≤ 90) := by simpa using h2
  have q3 : ¬ (48 ≤ (c : Int) ∧ (c : Int) ≤ 57) := by simpa using h3
  clear h1 h2 h3
  go_enter Try.func7, Try.ntmps7
  go_wp2
  all_goals (first | (exfalso; omega) | (go_ret; exact ⟨rfl, rfl⟩))

def hiN : Nat → Nat
  | 0 => 0
  | k + 1 => hiN k + if stB k = true ∧ 128 ≤ k then 1 else 0
def loN : Nat → Nat
  | 0 => 0
  | k + 1 => loN k + if stB k = true ∧ k < 128 then 1 else 0
theorem hiN_le : ∀ k, hiN k ≤ k
  | 0 => Nat.le_refl _
  | k + 1 => by have := hiN_le k; unfold hiN; split <;> omega
theorem loN_le : ∀ k, loN k ≤ k
  | 0 => Nat.le_refl _
  | k + 1 => by have := loN_le k; unfold loN; split <;> omega
theorem hi_all : hiN 256 = 128 := by decide +kernel
theorem lo_all : loN 256 = 10 := by decide +kernel
theorem no_word : ∀ i : Fin 128, stB i.val = true → wdB i.val = false := by decide +kernel

set_option maxHeartbeats 1000000 in
set_option maxRecDepth 100000 in
theorem all3 (w : World) : Calls Try.prog 3 #[] w fun e w' => e = .returned (.bool true) ∧ Below w.heap.size w w' := by
  go_enter Try.func3, Try.ntmps3
  go_wp2
  go_loopw [1, 2, 3] (fun hv lv iv wr => ∃ k : Nat, k ≤ 256 ∧ iv = .int .i64 k ∧ hv = .int .i64 (hiN k) ∧ lv = .int .i64 (loN k) ∧ Below w.heap.size w wr) (fun _ _ iv _ => 256 - (intOf iv).toNat)
  case atStart => exact ⟨0, Nat.zero_le _, rfl, rfl, rfl, Below.refl _ _⟩
  case round =>
    obtain ⟨k, hk, rfl, rfl, rfl, hb⟩ := hrel
    have h1 := hiN_le k
    have h2 := loN_le k
    by_cases hlt : k < 256
    · have hs1 : Hid (hiN (k + 1) = hiN k + if stB k = true ∧ 128 ≤ k then 1 else 0) := rfl
      have hs2 : Hid (loN (k + 1) = loN k + if stB k = true ∧ k < 128 then 1 else 0) := rfl
      cases hst : stB k
      · go_wp2_with (go_at_call 6; refine (starts6 k _).mono ?_; rintro e w' ⟨rfl, hb1⟩)
        go_roundw
        case rel => exact ⟨k + 1, by omega, by go_num, valInt (by rw [hs1.out, hst]; simp), valInt (by rw [hs2.out, hst]; simp), hb.trans (hb1.mono hb.size)⟩
        case measure => simp [intOf]; omega
      · by_cases h128 : 128 ≤ k
        · go_wp2_with (go_at_call 6; refine (starts6 k _).mono ?_; rintro e w' ⟨rfl, hb1⟩)
          go_roundw
          case rel => exact ⟨k + 1, by omega, by go_num, valInt (by rw [hs1.out, if_pos ⟨hst, h128⟩]; rfl), valInt (by rw [hs2.out, if_neg (by omega)]; rfl), hb.trans (hb1.mono hb.size)⟩
          case measure => simp [intOf]; omega
        · have hw := no_word ⟨k, by omega⟩ hst
          go_wp2_with (first | (go_at_call 6; refine (starts6 k _).mono ?_; rintro e w' ⟨rfl, hb1⟩) | (go_at_call 7; refine (word7_no k _ hw).mono ?_; rintro e w' ⟨rfl, rfl⟩))
          go_roundw
          case rel => exact ⟨k + 1, by omega, by go_num, valInt (by rw [hs1.out, if_neg (by omega)]; rfl), valInt (by rw [hs2.out, if_pos ⟨hst, by omega⟩]; rfl), hb.trans (hb1.mono hb.size)⟩
          case measure => simp [intOf]; omega
    · obtain rfl : k = 256 := by omega
      rw [hi_all, lo_all]
      go_wp2
      go_ret
      exact ⟨rfl, hb⟩
end Go.Proofs.Qxb6612781a
