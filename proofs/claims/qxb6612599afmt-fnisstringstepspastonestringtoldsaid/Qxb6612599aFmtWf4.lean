import Derived.Test.Qxb6612599aFmtWf3
namespace Go.Proofs.Qxb6612599aFmt
open Go.RowKit Go.Extern.Stop Go.Stop Go.Extern

set_option maxHeartbeats 1000000 in
set_option maxRecDepth 100000 in
theorem wf_big (g k n cap : Nat) (xs : List Int) (w : World) (hn : xs.length = n) (hbig : n ≤ 1099511627776)
    (hx : ∀ i, i < n → w.cell? ⟨g, i, none⟩ = some (.int .u8 (xs.getD i 0))) (hk0 : 0 < k) (hkn : k < n)
    (hdig : ∀ i, 0 ≤ i → i < k → 48 ≤ xs.getD i 0 ∧ xs.getD i 0 ≤ 57) (hcol : xs.getD k 0 = 58) (hz : ¬ (xs.getD 0 0 = 48 ∧ 1 < k)) (hv : (n : Int) < satG n (seg xs 0 k) + (k + 1)) :
    Calls Tryf.prog 7 #[.slice (some ⟨g, 0, none⟩) n cap] w
      fun e w' => e = .returned (.tuple #[.bool false, .int .i64 0, .int .i64 0]) ∧ w' = w := by
  have HX := hid hx
  have HD := hid hdig
  have HC := hid hcol
  have HZ := hid hz
  have HV := hid hv
  have HN := hid hn
  clear hx hdig hn hcol hz hv
  go_enter Tryf.func7, Tryf.ntmps7
  go_wp2
  go_loop [5, 6] (fun i v => ∃ j : Nat, j ≤ k ∧ i = .int .i64 j ∧ v = .int .i64 (satG n (seg xs 0 j))) (fun i _ => k - (intOf i).toNat)
  case atStart => exact ⟨0, Nat.zero_le _, rfl, by simp [seg, satG]⟩
  case round =>
    obtain ⟨j, hj1, rfl, rfl⟩ := hrel
    by_cases hlt : j < k
    · have hb := satG_bd n (seg xs 0 j) 0 (by omega) (by omega) (seg_mem xs 0 j n (Hid.out HN) (by omega) (fun i h1 h2 => Hid.out HD i h1 (by omega)))
      have hs : Hid (satG n (seg xs 0 (j + 1)) = if satG n (seg xs 0 j) ≤ n then satG n (seg xs 0 j) * 10 + (xs.getD j 0 - 48) else satG n (seg xs 0 j)) := by rw [seg_snoc xs 0 j (Nat.zero_le _) (by rw [Hid.out HN]; omega)]; exact satG_snoc _ _ _
      have hcj := Hid.out HX j (by omega)
      have hdj := Hid.out HD j (Nat.zero_le _) hlt
      have hb' : 0 ≤ satG n (seg xs 0 j) ∧ satG n (seg xs 0 j) ≤ 10 * n + 9 := hb
      clear hb
      generalize satG n (seg xs 0 j) = v at hb' hs ⊢
      generalize xs.getD j 0 = c at hcj hdj hs
      obtain ⟨hc0, hc1⟩ := hdj
      obtain ⟨hv0, hv1⟩ := hb'
      by_cases hvv : v ≤ n
      · go_wp2
        go_round
        case rel => exact ⟨j + 1, by omega, by go_num, valInt (by rw [hs.out, if_pos hvv])⟩
        case measure => simp [intOf]; omega
      · go_wp2
        go_round
        case rel => exact ⟨j + 1, by omega, by go_num, valInt (by rw [hs.out, if_neg hvv])⟩
        case measure => simp [intOf]; omega
    · obtain rfl : j = k := by omega
      have hb : 0 ≤ satG n (seg xs 0 j) ∧ satG n (seg xs 0 j) ≤ 10 * n + 9 := satG_bd n (seg xs 0 j) 0 (by omega) (by omega) (seg_mem xs 0 j n (Hid.out HN) (by omega) (Hid.out HD))
      have hcj : w.cell? ⟨g, j, none⟩ = some (.int .u8 58) := by rw [Hid.out HX j hkn, Hid.out HC]
      have hcp := Hid.out HX 0 (by omega)
      have hz' := Hid.out HZ
      have hv' := Hid.out HV
      have hj0b : ((j : Int) == 0) = false := by rw [beq_eq_false_iff_ne]; omega
      have hjnb : ((j : Int) == (n : Int)) = false := by rw [beq_eq_false_iff_ne]; omega
      generalize satG n (seg xs 0 j) = v at hb hv' ⊢
      generalize xs.getD 0 0 = c at hcp hz'
      obtain ⟨hv0, hv1⟩ := hb
      have hv2 : (n : Int) - (j + 1) < v := by omega
      clear HV HZ HC HX HD HN hv'
      by_cases h48 : c = 48
      · obtain rfl : j = 1 := by omega
        subst h48
        go_wp2
        go_ret3
        exact ⟨rfl, rfl⟩
      · have h48' : (c == 48) = false := by simpa using h48
        go_wp2
        go_ret3
        exact ⟨rfl, rfl⟩


theorem wf_no (g n cap : Nat) (xs : List Int) (w : World) (hn : xs.length = n) (hbig : n ≤ 1099511627776)
    (hx : ∀ i, i < n → w.cell? ⟨g, i, none⟩ = some (.int .u8 (xs.getD i 0))) (hno : ∀ k, ¬ Good xs 0 k) :
    Calls Tryf.prog 7 #[.slice (some ⟨g, 0, none⟩) n cap] w fun e w' => e = .returned (.tuple #[.bool false, .int .i64 0, .int .i64 0]) ∧ w' = w := by
  by_cases hn0 : n = 0
  · subst hn0; exact wf_none _ cap w
  · by_cases hdp : 48 ≤ xs.getD 0 0 ∧ xs.getD 0 0 ≤ 57
    · obtain ⟨k, h1, h2, h3, h4⟩ := dig_end xs _ 0 rfl (by omega) hdp
      rcases h4 with h4 | ⟨h4, h5⟩
      · obtain rfl : k = n := by omega
        exact wf_end g k cap xs w hn hbig hx (by omega) h3
      · by_cases hcol : xs.getD k 0 = 58
        · by_cases hz : xs.getD 0 0 = 48 ∧ 1 < k
          · exact wf_can g k n cap xs w hn hbig hx hz.2 (by omega) h3 hcol hz.1
          · by_cases hv : satG n (seg xs 0 k) + (k + 1) ≤ n
            · have hs := sat_same n hbig (seg xs 0 k) (seg_mem xs 0 k n hn (by omega) h3)
              exact absurd ⟨h1, h4, h3, hcol, hz, by omega⟩ (hno k)
            · exact wf_big g k n cap xs w hn hbig hx h1 (by omega) h3 hcol hz (by omega)
        · exact wf_col g k n cap xs w hn hbig hx h1 (by omega) h3 hcol h5
    · exact wf_zero g n cap xs w hbig (by omega) hx hdp

theorem wf_good (g k n cap v : Nat) (xs : List Int) (w : World) (hn : xs.length = n) (hbig : n ≤ 1099511627776)
    (hx : ∀ i, i < n → w.cell? ⟨g, i, none⟩ = some (.int .u8 (xs.getD i 0))) (G : Good xs 0 k) (hv : satU (seg xs 0 k) = v) :
    Calls Tryf.prog 7 #[.slice (some ⟨g, 0, none⟩) n cap] w fun e w' => e = .returned (.tuple #[.bool true, .int .i64 (k + 1), .int .i64 v]) ∧ w' = w := by
  have hkn := G.kn
  have hf := G.fit
  have hs := sat_same n hbig (seg xs 0 k) (seg_mem xs 0 k n hn (by omega) G.dig)
  have e : satG n (seg xs 0 k) = v := by omega
  have c := wf_yes g k n cap xs w hn hbig hx G.pk (by omega) G.dig G.col G.can (by omega)
  rw [e] at c
  exact c

end Go.Proofs.Qxb6612599aFmt
