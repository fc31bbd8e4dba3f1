import Derived.Test.Qxb6612599aFmtWf
namespace Go.Proofs.Qxb6612599aFmt
open Go.RowKit Go.Extern.Stop Go.Stop Go.Extern

set_option maxHeartbeats 1000000 in
set_option maxRecDepth 100000 in
theorem wf_end (g n cap : Nat) (xs : List Int) (w : World) (hn : xs.length = n) (hbig : n ≤ 1099511627776)
    (hx : ∀ i, i < n → w.cell? ⟨g, i, none⟩ = some (.int .u8 (xs.getD i 0))) (hk0 : 0 < n) 
    (hdig : ∀ i, 0 ≤ i → i < n → 48 ≤ xs.getD i 0 ∧ xs.getD i 0 ≤ 57)  :
    Calls Tryf.prog 7 #[.slice (some ⟨g, 0, none⟩) n cap] w
      fun e w' => e = .returned (.tuple #[.bool false, .int .i64 0, .int .i64 0]) ∧ w' = w := by
  have HX := hid hx
  have HD := hid hdig

  have HN := hid hn
  clear hx hdig hn 
  go_enter Tryf.func7, Tryf.ntmps7
  go_wp2
  go_loop [5, 6] (fun i v => ∃ j : Nat, j ≤ n ∧ i = .int .i64 j ∧ v = .int .i64 (satG n (seg xs 0 j))) (fun i _ => n - (intOf i).toNat)
  case atStart => exact ⟨0, Nat.zero_le _, rfl, by simp [seg, satG]⟩
  case round =>
    obtain ⟨j, hj1, rfl, rfl⟩ := hrel
    by_cases hlt : j < n
    · have hb := satG_bd n (seg xs 0 j) 0 (by omega) (by omega) (seg_mem xs 0 j n (Hid.out HN) (by omega) (fun i h1 h2 => Hid.out HD i h1 (by omega)))
      have hs : Hid (satG n (seg xs 0 (j + 1)) = if satG n (seg xs 0 j) ≤ n then satG n (seg xs 0 j) * 10 + (xs.getD j 0 - 48) else satG n (seg xs 0 j)) := by rw [seg_snoc xs 0 j (Nat.zero_le _) (by rw [Hid.out HN]; omega)]; exact satG_snoc _ _ _
      have hcj := Hid.out HX j (by omega)
      have hdj := Hid.out HD j (Nat.zero_le _) hlt
      have hb' : 0 ≤ satG n (seg xs 0 j) ∧ satG n (seg xs 0 j) ≤ 10 * n + 9 := hb
      clear hb
      generalize satG n (seg xs 0 j) = v at hb' hs ⊢
      generalize xs.getD j 0 = c at hcj hdj hs
      obtain ⟨hc0, hc1⟩ := hdj
      obtain ⟨hv0, hv1⟩ := hb'
      by_cases hvv : v ≤ n
      · go_wp2
        go_round
        case rel => exact ⟨j + 1, by omega, by go_num, valInt (by rw [hs.out, if_pos hvv])⟩
        case measure => simp [intOf]; omega
      · go_wp2
        go_round
        case rel => exact ⟨j + 1, by omega, by go_num, valInt (by rw [hs.out, if_neg hvv])⟩
        case measure => simp [intOf]; omega
    · obtain rfl : j = n := by omega
      have hb : 0 ≤ satG j (seg xs 0 j) ∧ satG j (seg xs 0 j) ≤ 10 * j + 9 := satG_bd j (seg xs 0 j) 0 (by omega) (by omega) (seg_mem xs 0 j j (Hid.out HN) (by omega) (Hid.out HD))
      have hj0b : ((j : Int) == 0) = false := by rw [beq_eq_false_iff_ne]; omega
      generalize satG j (seg xs 0 j) = v at hb ⊢
      obtain ⟨hv0, hv1⟩ := hb
      clear HX HD HN
      go_wp2
      go_ret3
      exact ⟨rfl, rfl⟩

set_option maxHeartbeats 1000000 in
set_option maxRecDepth 100000 in
theorem wf_col (g k n cap : Nat) (xs : List Int) (w : World) (hn : xs.length = n) (hbig : n ≤ 1099511627776)
    (hx : ∀ i, i < n → w.cell? ⟨g, i, none⟩ = some (.int .u8 (xs.getD i 0))) (hk0 : 0 < k) (hkn : k < n)
    (hdig : ∀ i, 0 ≤ i → i < k → 48 ≤ xs.getD i 0 ∧ xs.getD i 0 ≤ 57) (hcol : ¬ xs.getD k 0 = 58) (hg : ¬ (48 ≤ xs.getD k 0 ∧ xs.getD k 0 ≤ 57)) :
    Calls Tryf.prog 7 #[.slice (some ⟨g, 0, none⟩) n cap] w
      fun e w' => e = .returned (.tuple #[.bool false, .int .i64 0, .int .i64 0]) ∧ w' = w := by
  have HX := hid hx
  have HD := hid hdig
  have HC := hid hcol
  have HG := hid hg
  have HN := hid hn
  clear hx hdig hn hcol hg
  go_enter Tryf.func7, Tryf.ntmps7
  go_wp2
  go_loop [5, 6] (fun i v => ∃ j : Nat, j ≤ k ∧ i = .int .i64 j ∧ v = .int .i64 (satG n (seg xs 0 j))) (fun i _ => k - (intOf i).toNat)
  case atStart => exact ⟨0, Nat.zero_le _, rfl, by simp [seg, satG]⟩
  case round =>
    obtain ⟨j, hj1, rfl, rfl⟩ := hrel
    by_cases hlt : j < k
    · have hb := satG_bd n (seg xs 0 j) 0 (by omega) (by omega) (seg_mem xs 0 j n (Hid.out HN) (by omega) (fun i h1 h2 => Hid.out HD i h1 (by omega)))
      have hs : Hid (satG n (seg xs 0 (j + 1)) = if satG n (seg xs 0 j) ≤ n then satG n (seg xs 0 j) * 10 + (xs.getD j 0 - 48) else satG n (seg xs 0 j)) := by rw [seg_snoc xs 0 j (Nat.zero_le _) (by rw [Hid.out HN]; omega)]; exact satG_snoc _ _ _
      have hcj := Hid.out HX j (by omega)
      have hdj := Hid.out HD j (Nat.zero_le _) hlt
      have hb' : 0 ≤ satG n (seg xs 0 j) ∧ satG n (seg xs 0 j) ≤ 10 * n + 9 := hb
      clear hb
      generalize satG n (seg xs 0 j) = v at hb' hs ⊢
      generalize xs.getD j 0 = c at hcj hdj hs
      obtain ⟨hc0, hc1⟩ := hdj
      obtain ⟨hv0, hv1⟩ := hb'
      by_cases hvv : v ≤ n
      · go_wp2
        go_round
        case rel => exact ⟨j + 1, by omega, by go_num, valInt (by rw [hs.out, if_pos hvv])⟩
        case measure => simp [intOf]; omega
      · go_wp2
        go_round
        case rel => exact ⟨j + 1, by omega, by go_num, valInt (by rw [hs.out, if_neg hvv])⟩
        case measure => simp [intOf]; omega
    · obtain rfl : j = k := by omega
      have hb : 0 ≤ satG n (seg xs 0 j) ∧ satG n (seg xs 0 j) ≤ 10 * n + 9 := satG_bd n (seg xs 0 j) 0 (by omega) (by omega) (seg_mem xs 0 j n (Hid.out HN) (by omega) (Hid.out HD))
      have hj0b : ((j : Int) == 0) = false := by rw [beq_eq_false_iff_ne]; omega
      have hjnb : ((j : Int) == (n : Int)) = false := by rw [beq_eq_false_iff_ne]; omega
      generalize satG n (seg xs 0 j) = v at hb ⊢
      obtain ⟨hv0, hv1⟩ := hb
      have hcj := Hid.out HX j hkn
      have hcc := Hid.out HC
      have hnd := Hid.out HG
      generalize xs.getD j 0 = c at hcj hcc hnd
      have hc58 : (c != 58) = true := by simpa using hcc
      clear HC HG HX HD HN
      by_cases h9 : c ≤ 57
      · have h8 : ¬ 48 ≤ c := fun h => hnd ⟨h, h9⟩
        clear hnd
        go_wp2
        go_ret3
        exact ⟨rfl, rfl⟩
      · have h8 : 48 ≤ c := by omega
        clear hnd
        go_wp2
        go_ret3
        exact ⟨rfl, rfl⟩

set_option maxHeartbeats 1000000 in
set_option maxRecDepth 100000 in
theorem wf_can (g k n cap : Nat) (xs : List Int) (w : World) (hn : xs.length = n) (hbig : n ≤ 1099511627776)
    (hx : ∀ i, i < n → w.cell? ⟨g, i, none⟩ = some (.int .u8 (xs.getD i 0))) (hk0 : 1 < k) (hkn : k < n)
    (hdig : ∀ i, 0 ≤ i → i < k → 48 ≤ xs.getD i 0 ∧ xs.getD i 0 ≤ 57) (hcol : xs.getD k 0 = 58) (hz : xs.getD 0 0 = 48) :
    Calls Tryf.prog 7 #[.slice (some ⟨g, 0, none⟩) n cap] w
      fun e w' => e = .returned (.tuple #[.bool false, .int .i64 0, .int .i64 0]) ∧ w' = w := by
  have HX := hid hx
  have HD := hid hdig
  have HC := hid hcol
  have HZ := hid hz
  have HN := hid hn
  clear hx hdig hn hcol hz
  go_enter Tryf.func7, Tryf.ntmps7
  go_wp2
  go_loop [5, 6] (fun i v => ∃ j : Nat, j ≤ k ∧ i = .int .i64 j ∧ v = .int .i64 (satG n (seg xs 0 j))) (fun i _ => k - (intOf i).toNat)
  case atStart => exact ⟨0, Nat.zero_le _, rfl, by simp [seg, satG]⟩
  case round =>
    obtain ⟨j, hj1, rfl, rfl⟩ := hrel
    by_cases hlt : j < k
    · have hb := satG_bd n (seg xs 0 j) 0 (by omega) (by omega) (seg_mem xs 0 j n (Hid.out HN) (by omega) (fun i h1 h2 => Hid.out HD i h1 (by omega)))
      have hs : Hid (satG n (seg xs 0 (j + 1)) = if satG n (seg xs 0 j) ≤ n then satG n (seg xs 0 j) * 10 + (xs.getD j 0 - 48) else satG n (seg xs 0 j)) := by rw [seg_snoc xs 0 j (Nat.zero_le _) (by rw [Hid.out HN]; omega)]; exact satG_snoc _ _ _
      have hcj := Hid.out HX j (by omega)
      have hdj := Hid.out HD j (Nat.zero_le _) hlt
      have hb' : 0 ≤ satG n (seg xs 0 j) ∧ satG n (seg xs 0 j) ≤ 10 * n + 9 := hb
      clear hb
      generalize satG n (seg xs 0 j) = v at hb' hs ⊢
      generalize xs.getD j 0 = c at hcj hdj hs
      obtain ⟨hc0, hc1⟩ := hdj
      obtain ⟨hv0, hv1⟩ := hb'
      by_cases hvv : v ≤ n
      · go_wp2
        go_round
        case rel => exact ⟨j + 1, by omega, by go_num, valInt (by rw [hs.out, if_pos hvv])⟩
        case measure => simp [intOf]; omega
      · go_wp2
        go_round
        case rel => exact ⟨j + 1, by omega, by go_num, valInt (by rw [hs.out, if_neg hvv])⟩
        case measure => simp [intOf]; omega
    · obtain rfl : j = k := by omega
      have hb : 0 ≤ satG n (seg xs 0 j) ∧ satG n (seg xs 0 j) ≤ 10 * n + 9 := satG_bd n (seg xs 0 j) 0 (by omega) (by omega) (seg_mem xs 0 j n (Hid.out HN) (by omega) (Hid.out HD))
      have hj0b : ((j : Int) == 0) = false := by rw [beq_eq_false_iff_ne]; omega
      have hjnb : ((j : Int) == (n : Int)) = false := by rw [beq_eq_false_iff_ne]; omega
      generalize satG n (seg xs 0 j) = v at hb ⊢
      obtain ⟨hv0, hv1⟩ := hb
      have hcj : w.cell? ⟨g, j, none⟩ = some (.int .u8 58) := by rw [Hid.out HX j hkn, Hid.out HC]
      have hcp : w.cell? ⟨g, 0, none⟩ = some (.int .u8 48) := by rw [Hid.out HX 0 (by omega), Hid.out HZ]
      clear HC HZ HX HD HN
      go_wp2
      go_ret3
      exact ⟨rfl, rfl⟩


end Go.Proofs.Qxb6612599aFmt
