import Derived.Test.Qxb6612599aFmtNumCan
namespace Go.Proofs.Qxb6612599aFmt
open Go.RowKit Go.Extern.Stop Go.Stop Go.Extern

set_option maxHeartbeats 1000000 in
set_option maxRecDepth 100000 in
theorem number_ran (F : Interp) (g b p k n cap : Nat) (xs : List Int) (w : World) (hF : F.answers w.tape) (hn : xs.length = n) (hbig : n ≤ 1099511627776) (hcap : n ≤ cap)
    (hd : w.cell? ⟨b, 0, none⟩ = some (.slice (some ⟨g, 0, none⟩) n cap)) (hp : w.cell? ⟨b, 1, none⟩ = some (.int .i64 p)) (hfz : w.frozen? ⟨b, 1, none⟩ = false)
    (hx : ∀ i, i < n → w.cell? ⟨g, i, none⟩ = some (.int .u8 (xs.getD i 0))) (hgb : g < b) (hbz : b < w.heap.size)
    (hpk : p < k) (hkn : k < n) (hdig : ∀ i, p ≤ i → i < k → 48 ≤ xs.getD i 0 ∧ xs.getD i 0 ≤ 57) (hcol : xs.getD k 0 = 58) (hz : ¬ (xs.getD p 0 = 48 ∧ 1 < k - p)) (hv : 9223372036854775808 ≤ satU (seg xs p k)) :
    Calls Tryf.prog 17 #[.pointer (some ⟨b, 0, none⟩), .int .u8 58, .bool false] w
      fun e w' => ∃ x, e = .returned (.tuple #[.int .i64 0, .iface 54 (.pointer (some x))]) ∧ Below b w w' := by
  have HX : Hid (∀ i, i < n → w.cell? ⟨g, i, none⟩ = some (.int .u8 (xs.getD i 0))) := hx
  have HD : Hid (∀ i, p ≤ i → i < k → 48 ≤ xs.getD i 0 ∧ xs.getD i 0 ≤ 57) := hdig
  have HC : Hid (xs.getD k 0 = 58) := hcol
  have HZ : Hid (¬ (xs.getD p 0 = 48 ∧ 1 < k - p)) := hz
  have HV : Hid (9223372036854775808 ≤ satU (seg xs p k)) := hv
  have HN : Hid (xs.length = n) := hn
  clear hx hdig hn hcol hz hv
  go_enter Tryf.func17, Tryf.ntmps17
  go_wp2
  go_quiet (fail)
  go_wp2
  go_loop [9, 11] (fun i v => ∃ j : Nat, p ≤ j ∧ j ≤ k ∧ i = .int .i64 j ∧ v = .int .u64 (satU (seg xs p j))) (fun i _ => k - (intOf i).toNat)
  case atStart => exact ⟨p, Nat.le_refl _, by omega, rfl, by simp [seg, satU]⟩
  case round =>
    obtain ⟨j, hj0, hj1, rfl, rfl⟩ := hrel
    by_cases hlt : j < k
    · have hb := satU_bd (seg xs p j) (seg_mem xs p j n HN.out (by omega) (fun i h1 h2 => HD.out i h1 (by omega)))
      have hs : Hid (satU (seg xs p (j + 1)) = if satU (seg xs p j) ≤ 922337203685477580 then satU (seg xs p j) * 10 + (xs.getD j 0 - 48) else 18446744073709551615) := by rw [seg_snoc xs p j hj0 (by rw [HN.out]; omega)]; exact satU_snoc _ _
      have hcj := HX.out j (by omega)
      have hdj := HD.out j hj0 hlt
      generalize satU (seg xs p j) = v at hb hs ⊢
      generalize xs.getD j 0 = c at hcj hdj hs
      obtain ⟨hc0, hc1⟩ := hdj
      obtain ⟨hv0, hv1⟩ := hb
      by_cases hvv : v ≤ 922337203685477580
      · go_wp2
        go_round
        case rel => exact ⟨j + 1, by omega, by omega, by go_num, valInt (by rw [hs.out, if_pos hvv])⟩
        case measure => simp [intOf]; omega
      · go_wp2
        go_round
        case rel => exact ⟨j + 1, by omega, by omega, by go_num, valInt (by rw [hs.out, if_neg hvv])⟩
        case measure => simp [intOf]; omega
    · obtain rfl : j = k := by omega
      have hb := satU_bd (seg xs p j) (seg_mem xs p j n HN.out (by omega) HD.out)
      have hcj : w.cell? ⟨g, j, none⟩ = some (.int .u8 58) := by rw [HX.out j hkn, HC.out]
      have hcp := HX.out p (by omega)
      have hv' := HV.out
      have hz' := HZ.out
      have hdp := HD.out p (Nat.le_refl _) hpk
      generalize satU (seg xs p j) = v at hb hv' ⊢
      generalize xs.getD p 0 = c at hcp hz' hdp
      obtain ⟨hv0, hv1⟩ := hb
      clear HV HZ HC HD
      by_cases h48 : c = 48
      · obtain rfl : j = p + 1 := by omega
        subst h48
        go_wp2_with fail
        have c1 := err_numW F ⟨#[110, 117, 109, 98, 101, 114, 32, 37, 46, 50, 48, 113, 32, 105, 115, 32, 111, 117, 116, 32, 111, 102, 32, 114, 97, 110, 103, 101]⟩ fmtRan g b p (p + 1) n (cap - p) nq xs w hF HN.out hp HX.out hgb hbz (by omega)
        rw [Nat.add_sub_cancel_left] at c1
        refine c1.mono ?_
        rintro e w' ⟨x, rfl, hb⟩
        go_wp2
        go_ret2
        exact ⟨x, rfl, hb⟩
      · have h48' : (c == 48) = false := by simpa using h48
        go_wp2_with fail
        refine (err_numW F ⟨#[110, 117, 109, 98, 101, 114, 32, 37, 46, 50, 48, 113, 32, 105, 115, 32, 111, 117, 116, 32, 111, 102, 32, 114, 97, 110, 103, 101]⟩ fmtRan g b p j n (cap - p) nq xs w hF HN.out hp HX.out hgb hbz (by omega)).mono ?_
        rintro e w' ⟨x, rfl, hb⟩
        go_wp2
        go_ret2
        exact ⟨x, rfl, hb⟩

end Go.Proofs.Qxb6612599aFmt
