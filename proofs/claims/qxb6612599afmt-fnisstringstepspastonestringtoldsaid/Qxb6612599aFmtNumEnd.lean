import Derived.Test.Qxb6612599aFmtNumCan
namespace Go.Proofs.Qxb6612599aFmt
open Go.RowKit Go.Extern.Stop Go.Stop Go.Extern

theorem err_endW (F : Interp) (b n nq : Nat) (p : Int) (w : World) (hF : F.answers w.tape) (hp : w.cell? ⟨b, 1, none⟩ = some (.int .i64 p)) (_hbz : b < w.heap.size) :
    Calls Tryf.prog 18 #[.pointer (some ⟨b, 0, none⟩), .string ⟨#[117, 110, 101, 120, 112, 101, 99, 116, 101, 100, 32, 101, 110, 100, 32, 111, 102, 32, 100, 97, 116, 97]⟩, .slice none 0 0] ((w.drewN nq).setCell ⟨b, 1, none⟩ (.int .i64 n))
      fun e w' => ∃ x, e = .returned (.iface 54 (.pointer (some x))) ∧ Below b w w' := by
  refine (show Calls _ _ _ _ _ from err_end F b n _ (by exact hF) (by exact World.cell?_setCell_same (w.drewN nq) _ _ hp)).mono ?_
  rintro e w' ⟨x, rfl, hb⟩
  exact ⟨x, rfl, ((bdr b w nq).setCell (Nat.le_refl _) _).trans (hb.mono (by simp; omega))⟩

set_option maxHeartbeats 1000000 in
set_option maxRecDepth 100000 in
theorem number_end (F : Interp) (g b p n cap : Nat) (xs : List Int) (w : World) (hF : F.answers w.tape) (hn : xs.length = n) (hbig : n ≤ 1099511627776) (hcap : n ≤ cap)
    (hd : w.cell? ⟨b, 0, none⟩ = some (.slice (some ⟨g, 0, none⟩) n cap)) (hp : w.cell? ⟨b, 1, none⟩ = some (.int .i64 p)) (hfz : w.frozen? ⟨b, 1, none⟩ = false)
    (hx : ∀ i, i < n → w.cell? ⟨g, i, none⟩ = some (.int .u8 (xs.getD i 0))) (_hgb : g < b) (hbz : b < w.heap.size)
    (hpk : p < n) (hdig : ∀ i, p ≤ i → i < n → 48 ≤ xs.getD i 0 ∧ xs.getD i 0 ≤ 57)  :
    Calls Tryf.prog 17 #[.pointer (some ⟨b, 0, none⟩), .int .u8 58, .bool false] w
      fun e w' => ∃ x, e = .returned (.tuple #[.int .i64 0, .iface 54 (.pointer (some x))]) ∧ Below b w w' := by
  have HX : Hid (∀ i, i < n → w.cell? ⟨g, i, none⟩ = some (.int .u8 (xs.getD i 0))) := hx
  have HD : Hid (∀ i, p ≤ i → i < n → 48 ≤ xs.getD i 0 ∧ xs.getD i 0 ≤ 57) := hdig

  have HN : Hid (xs.length = n) := hn
  clear hx hdig hn 
  go_enter Tryf.func17, Tryf.ntmps17
  go_wp2
  go_quiet (fail)
  go_wp2
  go_loop [9, 11] (fun i v => ∃ j : Nat, p ≤ j ∧ j ≤ n ∧ i = .int .i64 j ∧ v = .int .u64 (satU (seg xs p j))) (fun i _ => n - (intOf i).toNat)
  case atStart => exact ⟨p, Nat.le_refl _, by omega, rfl, by simp [seg, satU]⟩
  case round =>
    obtain ⟨j, hj0, hj1, rfl, rfl⟩ := hrel
    by_cases hlt : j < n
    · have hb := satU_bd (seg xs p j) (seg_mem xs p j n HN.out (by omega) (fun i h1 h2 => HD.out i h1 (by omega)))
      have hs : Hid (satU (seg xs p (j + 1)) = if satU (seg xs p j) ≤ 922337203685477580 then satU (seg xs p j) * 10 + (xs.getD j 0 - 48) else 18446744073709551615) := by rw [seg_snoc xs p j hj0 (by rw [HN.out]; omega)]; exact satU_snoc _ _
      have hcj := HX.out j (by omega)
      have hdj := HD.out j hj0 hlt
      generalize satU (seg xs p j) = v at hb hs ⊢
      generalize xs.getD j 0 = c at hcj hdj hs
      obtain ⟨hc0, hc1⟩ := hdj
      obtain ⟨hv0, hv1⟩ := hb
      by_cases hvv : v ≤ 922337203685477580
      · go_wp2
        go_round
        case rel => exact ⟨j + 1, by omega, by omega, by go_num, valInt (by rw [hs.out, if_pos hvv])⟩
        case measure => simp [intOf]; omega
      · go_wp2
        go_round
        case rel => exact ⟨j + 1, by omega, by omega, by go_num, valInt (by rw [hs.out, if_neg hvv])⟩
        case measure => simp [intOf]; omega
    · obtain rfl : j = n := by omega
      have hb := satU_bd (seg xs p j) (seg_mem xs p j j HN.out (by omega) HD.out)
      generalize satU (seg xs p j) = v at hb ⊢
      obtain ⟨hv0, hv1⟩ := hb
      go_wp2_with fail
      · refine (index21 g 0 0 0 [] 58 _ rfl (fun i h => by omega)).mono ?_
        rintro e w' ⟨r, rfl, hr0, hr1, rfl⟩
        have hr : r < 0 := hr1
        go_wp2_with fail
        refine (err_endW F b j nq p w hF hp hbz).mono ?_
        rintro e w' ⟨x, rfl, hb⟩
        go_wp2
        go_ret2
        exact ⟨x, rfl, hb⟩
      · refine (index21 g j 0 (cap - j) [] 58 _ rfl (fun i h => by omega)).mono ?_
        rintro e w' ⟨r, rfl, hr0, hr1, rfl⟩
        have hr : r < 0 := hr1
        go_wp2_with fail
        refine (err_endW F b j nq p w hF hp hbz).mono ?_
        rintro e w' ⟨x, rfl, hb⟩
        go_wp2
        go_ret2
        exact ⟨x, rfl, hb⟩

end Go.Proofs.Qxb6612599aFmt
