import Derived.Test.Qxb6612599aFmtNumEnd
namespace Go.Proofs.Qxb6612599aFmt
open Go.RowKit Go.Extern.Stop Go.Stop Go.Extern

theorem drop_cell (g j n : Nat) (xs : List Int) (w : World) (hx : ∀ i, i < n → w.cell? ⟨g, i, none⟩ = some (.int .u8 (xs.getD i 0))) (i : Nat) (h : i < n - j) : w.cell? ⟨g, j + i, none⟩ = some (.int .u8 ((xs.drop j).getD i 0)) := by
  rw [hx (j + i) (by omega)]; simp [List.getD_eq_getElem?_getD, List.getElem?_drop]

set_option maxHeartbeats 1000000 in
set_option maxRecDepth 100000 in
theorem number_dec (F : Interp) (g b p k n cap : Nat) (xs : List Int) (w : World) (hF : F.answers w.tape) (hn : xs.length = n) (hbig : n ≤ 1099511627776) (hcap : n ≤ cap)
    (hd : w.cell? ⟨b, 0, none⟩ = some (.slice (some ⟨g, 0, none⟩) n cap)) (hp : w.cell? ⟨b, 1, none⟩ = some (.int .i64 p)) (hfz : w.frozen? ⟨b, 1, none⟩ = false)
    (hx : ∀ i, i < n → w.cell? ⟨g, i, none⟩ = some (.int .u8 (xs.getD i 0))) (hgb : g < b) (hbz : b < w.heap.size)
    (hpk : p < k) (hkn : k < n) (hdig : ∀ i, p ≤ i → i < k → 48 ≤ xs.getD i 0 ∧ xs.getD i 0 ≤ 57) (hcol : ¬ xs.getD k 0 = 58) (hg : ¬ (48 ≤ xs.getD k 0 ∧ xs.getD k 0 ≤ 57)) :
    Calls Tryf.prog 17 #[.pointer (some ⟨b, 0, none⟩), .int .u8 58, .bool false] w
      fun e w' => ∃ x, e = .returned (.tuple #[.int .i64 0, .iface 54 (.pointer (some x))]) ∧ Below b w w' := by
  have HX : Hid (∀ i, i < n → w.cell? ⟨g, i, none⟩ = some (.int .u8 (xs.getD i 0))) := hx
  have HD : Hid (∀ i, p ≤ i → i < k → 48 ≤ xs.getD i 0 ∧ xs.getD i 0 ≤ 57) := hdig
  have HC : Hid (¬ xs.getD k 0 = 58) := hcol
  have HG : Hid (¬ (48 ≤ xs.getD k 0 ∧ xs.getD k 0 ≤ 57)) := hg
  have HN : Hid (xs.length = n) := hn
  clear hx hdig hn hcol hg
  go_enter Tryf.func17, Tryf.ntmps17
  go_wp2
  go_quiet (fail)
  go_wp2
  go_loop [9, 11] (fun i v => ∃ j : Nat, p ≤ j ∧ j ≤ k ∧ i = .int .i64 j ∧ v = .int .u64 (satU (seg xs p j))) (fun i _ => k - (intOf i).toNat)
  case atStart => exact ⟨p, Nat.le_refl _, by omega, rfl, by simp [seg, satU]⟩
  case round =>
    obtain ⟨j, hj0, hj1, rfl, rfl⟩ := hrel
    by_cases hlt : j < k
    · have hb := satU_bd (seg xs p j) (seg_mem xs p j n HN.out (by omega) (fun i h1 h2 => HD.out i h1 (by omega)))
      have hs : Hid (satU (seg xs p (j + 1)) = if satU (seg xs p j) ≤ 922337203685477580 then satU (seg xs p j) * 10 + (xs.getD j 0 - 48) else 18446744073709551615) := by rw [seg_snoc xs p j hj0 (by rw [HN.out]; omega)]; exact satU_snoc _ _
      have hcj := HX.out j (by omega)
      have hdj := HD.out j hj0 hlt
      generalize satU (seg xs p j) = v at hb hs ⊢
      generalize xs.getD j 0 = c at hcj hdj hs
      obtain ⟨hc0, hc1⟩ := hdj
      obtain ⟨hv0, hv1⟩ := hb
      by_cases hvv : v ≤ 922337203685477580
      · go_wp2
        go_round
        case rel => exact ⟨j + 1, by omega, by omega, by go_num, valInt (by rw [hs.out, if_pos hvv])⟩
        case measure => simp [intOf]; omega
      · go_wp2
        go_round
        case rel => exact ⟨j + 1, by omega, by omega, by go_num, valInt (by rw [hs.out, if_neg hvv])⟩
        case measure => simp [intOf]; omega
    · obtain rfl : j = k := by omega
      have hb := satU_bd (seg xs p j) (seg_mem xs p j n HN.out (by omega) HD.out)
      have hcj := HX.out j hkn
      have hcc := HC.out
      have hnd := HG.out
      generalize satU (seg xs p j) = v at hb ⊢
      obtain ⟨c, hce⟩ : ∃ c, Hid (xs.getD j 0 = c) := ⟨_, rfl⟩
      rw [hce.out] at hcj hcc hnd
      obtain ⟨hv0, hv1⟩ := hb
      have hc58 : (c != 58) = true := by simpa using hcc
      clear HC HG
      by_cases h9 : c ≤ 57
      · have h8 : ¬ 48 ≤ c := fun h => hnd ⟨h, h9⟩
        clear hnd
        go_wp2_with fail
        refine (index21 g j (n - j) (cap - j) (xs.drop j) 58 _ (by rw [List.length_drop, HN.out]) (by exact fun i h => drop_cell g j n xs w HX.out i h)).mono ?_
        rintro e w' ⟨r, rfl, hr0, hr1, rfl⟩
        by_cases hr : r < 0
        · go_wp2_with fail
          refine (err_endW F b n nq p w hF hp hbz).mono ?_
          rintro e w' ⟨x, rfl, hb⟩
          go_wp2
          go_ret2
          exact ⟨x, rfl, hb⟩
        · obtain ⟨q, rfl⟩ : ∃ q : Nat, r = q := ⟨r.toNat, by omega⟩
          have hq : j + q ≤ n := by omega
          go_wp2_with fail
          refine (err_numW F ⟨#[110, 117, 109, 98, 101, 114, 32, 37, 46, 50, 48, 113, 32, 105, 115, 32, 110, 111, 116, 32, 100, 101, 99, 105, 109, 97, 108]⟩ fmtDec g b p (j + q) n (cap - p) nq xs w hF HN.out hp HX.out hgb hbz hq).mono ?_
          rintro e w' ⟨x, rfl, hb⟩
          go_wp2
          go_ret2
          exact ⟨x, rfl, hb⟩
      · have h8 : 48 ≤ c := by omega
        clear hnd
        go_wp2_with fail
        refine (index21 g j (n - j) (cap - j) (xs.drop j) 58 _ (by rw [List.length_drop, HN.out]) (by exact fun i h => drop_cell g j n xs w HX.out i h)).mono ?_
        rintro e w' ⟨r, rfl, hr0, hr1, rfl⟩
        by_cases hr : r < 0
        · go_wp2_with fail
          refine (err_endW F b n nq p w hF hp hbz).mono ?_
          rintro e w' ⟨x, rfl, hb⟩
          go_wp2
          go_ret2
          exact ⟨x, rfl, hb⟩
        · obtain ⟨q, rfl⟩ : ∃ q : Nat, r = q := ⟨r.toNat, by omega⟩
          have hq : j + q ≤ n := by omega
          go_wp2_with fail
          refine (err_numW F ⟨#[110, 117, 109, 98, 101, 114, 32, 37, 46, 50, 48, 113, 32, 105, 115, 32, 110, 111, 116, 32, 100, 101, 99, 105, 109, 97, 108]⟩ fmtDec g b p (j + q) n (cap - p) nq xs w hF HN.out hp HX.out hgb hbz hq).mono ?_
          rintro e w' ⟨x, rfl, hb⟩
          go_wp2
          go_ret2
          exact ⟨x, rfl, hb⟩

end Go.Proofs.Qxb6612599aFmt
