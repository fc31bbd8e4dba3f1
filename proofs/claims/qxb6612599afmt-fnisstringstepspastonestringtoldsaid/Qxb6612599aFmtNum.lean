import Derived.Test.Qxb6612599aFmtStart
import Derived.Lib.BytesEntry
namespace Go.Proofs.Qxb6612599aFmt
open Go.RowKit Go.Extern.Stop Go.Stop Go.Extern

theorem idx_lt : ∀ (l : List UInt8) (c : UInt8), Lib.indexByte l c < l.length
  | [], c => by simp [Lib.indexByte]
  | b :: l, c => by
    have ih := idx_lt l c
    unfold Lib.indexByte
    split
    · simp
    · split
      · simp; omega
      · simp; omega

set_option maxHeartbeats 400000 in
theorem index21 (b o n c : Nat) (xs : List Int) (cv : Int) (w : World) (hx : xs.length = n) (hc : ∀ i, i < n → w.cell? ⟨b, o + i, none⟩ = some (.int .u8 (xs.getD i 0))) :
    Calls Tryf.prog 21 #[.slice (some ⟨b, o, none⟩) n c, .int .u8 cv] w fun e w' => ∃ r : Int, e = .returned (.int .i64 r) ∧ -1 ≤ r ∧ r < n ∧ w' = w := by
  have h1 := Lib.indexByte_ge (Lib.bytesOf xs) cv.toNat.toUInt8
  have h2 := idx_lt (Lib.bytesOf xs) cv.toNat.toUInt8
  rw [show (Lib.bytesOf xs).length = n by simp [Lib.bytesOf, hx]] at h2
  have H1 : Hid (-1 ≤ Lib.indexByte (Lib.bytesOf xs) cv.toNat.toUInt8) := h1
  have H2 : Hid (Lib.indexByte (Lib.bytesOf xs) cv.toNat.toUInt8 < n) := h2
  clear h1 h2
  go_enter Tryf.func21, Tryf.ntmps21
  go_wp2
  rw [run_callFunc_extern Tryf.func24 (by kernel_rfl) (by kernel_rfl) (by kernel_rfl) (e := Extern.BytealgIndexByte.indexByte) (by kernel_rfl), Lib.run_indexByteSlice w b o n c xs hx hc cv]
  simp only [Result.andThen]
  rw [Oper.upon_value]
  go_wp2
  go_ret
  exact ⟨_, rfl, H1.out, H2.out, rfl⟩

/-- The decoder's saturating count of the digits. -/
def satU (l : List Int) : Int := l.foldl (fun n c => if n ≤ 922337203685477580 then n * 10 + (c - 48) else 18446744073709551615) 0
def seg (xs : List Int) (p k : Nat) : List Int := (xs.drop p).take (k - p)
theorem seg_snoc (xs : List Int) (p k : Nat) (h0 : p ≤ k) (h : k < xs.length) : seg xs p (k + 1) = seg xs p k ++ [xs.getD k 0] := by
  unfold seg
  rw [show k + 1 - p = (k - p) + 1 by omega, List.take_succ_eq_append_getElem (by rw [List.length_drop]; omega)]
  congr 2
  rw [List.getElem_drop, List.getD_eq_getElem?_getD]
  have : p + (k - p) = k := by omega
  simp only [this]
  simp [List.getElem?_eq_getElem h]
theorem satU_snoc (l : List Int) (c : Int) : satU (l ++ [c]) = if satU l ≤ 922337203685477580 then satU l * 10 + (c - 48) else 18446744073709551615 := by
  unfold satU; rw [List.foldl_append]; rfl
theorem satU_go : ∀ (l : List Int) (a : Int), 0 ≤ a → a ≤ 18446744073709551615 → (∀ c ∈ l, 48 ≤ c ∧ c ≤ 57) →
    0 ≤ l.foldl (fun n c => if n ≤ 922337203685477580 then n * 10 + (c - 48) else 18446744073709551615) a ∧ l.foldl (fun n c => if n ≤ 922337203685477580 then n * 10 + (c - 48) else 18446744073709551615) a ≤ 18446744073709551615
  | [], a, h0, h1, _ => ⟨h0, h1⟩
  | c :: l, a, h0, h1, h => by
    have hc := h c (by simp)
    rw [List.foldl_cons]
    refine satU_go l _ ?_ ?_ (fun x hx => h x (by simp [hx]))
    · split <;> omega
    · split <;> omega
theorem satU_bd (l : List Int) (h : ∀ c ∈ l, 48 ≤ c ∧ c ≤ 57) : 0 ≤ satU l ∧ satU l ≤ 18446744073709551615 := satU_go l 0 (by omega) (by omega) h
theorem seg_mem (xs : List Int) (p k n : Nat) (hn : xs.length = n) (hkn : k ≤ n) (hdig : ∀ i, p ≤ i → i < k → 48 ≤ xs.getD i 0 ∧ xs.getD i 0 ≤ 57) : ∀ c ∈ seg xs p k, 48 ≤ c ∧ c ≤ 57 := by
  intro c hc
  obtain ⟨i, hi, rfl⟩ := List.getElem_of_mem hc
  unfold seg at hi ⊢
  have hi2 : i < k - p := by rw [List.length_take] at hi; omega
  have h := hdig (p + i) (by omega) (by omega)
  rw [List.getElem_take, List.getElem_drop]
  rw [List.getD_eq_getElem?_getD, List.getElem?_eq_getElem (by omega)] at h
  exact h

theorem retPair {a b : Int} {x : Value} (h : a = b) : Ending.returned (.tuple #[.int .i64 a, x]) = .returned (.tuple #[.int .i64 b, x]) := by rw [h]
theorem valInt {k : IntKind} {a b : Int} (h : a = b) : Value.int k a = Value.int k b := by rw [h]

set_option maxHeartbeats 1000000 in
set_option maxRecDepth 100000 in
theorem number_ok (g b p k n cap : Nat) (xs : List Int) (w : World) (hn : xs.length = n) (hbig : n ≤ 1099511627776) (hcap : n ≤ cap)
    (hd : w.cell? ⟨b, 0, none⟩ = some (.slice (some ⟨g, 0, none⟩) n cap)) (hp : w.cell? ⟨b, 1, none⟩ = some (.int .i64 p)) (hfz : w.frozen? ⟨b, 1, none⟩ = false)
    (hx : ∀ i, i < n → w.cell? ⟨g, i, none⟩ = some (.int .u8 (xs.getD i 0)))
    (hpk : p < k) (hkn : k < n) (hdig : ∀ i, p ≤ i → i < k → 48 ≤ xs.getD i 0 ∧ xs.getD i 0 ≤ 57) (hcol : xs.getD k 0 = 58)
    (hz : ¬ (xs.getD p 0 = 48 ∧ 1 < k - p)) (hv : satU (seg xs p k) < 9223372036854775808) :
    Calls Tryf.prog 17 #[.pointer (some ⟨b, 0, none⟩), .int .u8 58, .bool false] w
      fun e w' => e = .returned (.tuple #[.int .i64 (satU (seg xs p k)), .nilIface]) ∧ ∃ m, w' = (w.setCell ⟨b, 1, none⟩ (.int .i64 (k + 1))).drewN m := by
  have HX : Hid (∀ i, i < n → w.cell? ⟨g, i, none⟩ = some (.int .u8 (xs.getD i 0))) := hx
  have HD : Hid (∀ i, p ≤ i → i < k → 48 ≤ xs.getD i 0 ∧ xs.getD i 0 ≤ 57) := hdig
  have HC : Hid (xs.getD k 0 = 58) := hcol
  have HZ : Hid (¬ (xs.getD p 0 = 48 ∧ 1 < k - p)) := hz
  have HV : Hid (satU (seg xs p k) < 9223372036854775808) := hv
  have HN : Hid (xs.length = n) := hn
  clear hx hdig hcol hz hv hn
  go_enter Tryf.func17, Tryf.ntmps17
  go_wp2
  go_quiet (fail)
  go_wp2
  go_loop [9, 11] (fun i v => ∃ j : Nat, p ≤ j ∧ j ≤ k ∧ i = .int .i64 j ∧ v = .int .u64 (satU (seg xs p j))) (fun i _ => k - (intOf i).toNat)
  case atStart => exact ⟨p, Nat.le_refl _, by omega, rfl, by simp [seg, satU]⟩
  case round =>
    obtain ⟨j, hj0, hj1, rfl, rfl⟩ := hrel
    by_cases hlt : j < k
    · have hb := satU_bd (seg xs p j) (seg_mem xs p j n HN.out (by omega) (fun i h1 h2 => HD.out i h1 (by omega)))
      have hs : Hid (satU (seg xs p (j + 1)) = if satU (seg xs p j) ≤ 922337203685477580 then satU (seg xs p j) * 10 + (xs.getD j 0 - 48) else 18446744073709551615) := by rw [seg_snoc xs p j hj0 (by rw [HN.out]; omega)]; exact satU_snoc _ _
      have hcj := HX.out j (by omega)
      have hdj := HD.out j hj0 hlt
      generalize satU (seg xs p j) = v at hb hs ⊢
      generalize xs.getD j 0 = c at hcj hdj hs
      obtain ⟨hc0, hc1⟩ := hdj
      obtain ⟨hv0, hv1⟩ := hb
      by_cases hvv : v ≤ 922337203685477580
      · go_wp2
        go_round
        case rel => exact ⟨j + 1, by omega, by omega, by go_num, valInt (by rw [hs.out, if_pos hvv])⟩
        case measure => simp [intOf]; omega
      · go_wp2
        go_round
        case rel => exact ⟨j + 1, by omega, by omega, by go_num, valInt (by rw [hs.out, if_neg hvv])⟩
        case measure => simp [intOf]; omega
    · obtain rfl : j = k := by omega
      have hb := satU_bd (seg xs p j) (seg_mem xs p j n HN.out (by omega) HD.out)
      have hcj : w.cell? ⟨g, j, none⟩ = some (.int .u8 58) := by rw [HX.out j hkn, HC.out]
      have hcp := HX.out p (by omega)
      have hv' := HV.out
      have hz' := HZ.out
      have hdp := HD.out p (Nat.le_refl _) hpk
      obtain ⟨v, hve⟩ : ∃ v, Hid (satU (seg xs p j) = v) := ⟨_, rfl⟩
      rw [hve.out] at hb hv' ⊢
      generalize xs.getD p 0 = c at hcp hz' hdp
      obtain ⟨hv0, hv1⟩ := hb
      clear HV HZ HC HX HD HN
      by_cases h48 : c = 48
      · obtain rfl : j = p + 1 := by omega
        subst h48
        go_wp2
        go_ret2
        exact ⟨retPair hve.out.symm, nq, rfl⟩
      · have h48' : (c == 48) = false := by simpa using h48
        go_wp2
        go_ret2
        exact ⟨retPair hve.out.symm, nq, rfl⟩
end Go.Proofs.Qxb6612599aFmt
