import Derived.Test.Qxb6612599aFmtClone
namespace Go.Proofs.Qxb6612599aFmt
open Go.RowKit Go.Extern.Stop Go.Stop Go.Extern

/-- The law's own count: it stands still once it is above L. -/
def satG (L : Nat) (l : List Int) : Int := l.foldl (fun n c => if n ≤ L then n * 10 + (c - 48) else n) 0
def valD (l : List Int) : Int := l.foldl (fun n c => n * 10 + (c - 48)) 0
theorem satG_snoc (L : Nat) (l : List Int) (c : Int) : satG L (l ++ [c]) = if satG L l ≤ L then satG L l * 10 + (c - 48) else satG L l := by
  unfold satG; rw [List.foldl_append]; rfl
theorem satG_go (L : Nat) : ∀ (l : List Int) (a b : Int), 0 ≤ b → (a = b ∨ ((L : Int) < a ∧ (L : Int) < b)) → (∀ c ∈ l, 48 ≤ c ∧ c ≤ 57) →
    (l.foldl (fun n c => if n ≤ (L : Int) then n * 10 + (c - 48) else n) a = l.foldl (fun n c => n * 10 + (c - 48)) b ∨
      ((L : Int) < l.foldl (fun n c => if n ≤ (L : Int) then n * 10 + (c - 48) else n) a ∧ (L : Int) < l.foldl (fun n c => n * 10 + (c - 48)) b))
  | [], a, b, _, h, _ => h
  | c :: l, a, b, h0, h, hd => by
    have hc := hd c (by simp)
    rw [List.foldl_cons, List.foldl_cons]
    refine satG_go L l _ _ (by omega) ?_ (fun x hx => hd x (by simp [hx]))
    by_cases ha : a ≤ L
    · rw [if_pos ha]; omega
    · rw [if_neg ha]; omega
theorem satU_go2 : ∀ (l : List Int) (a b : Int), 0 ≤ b → (a = b ∨ (922337203685477580 < a ∧ 922337203685477580 < b)) → (∀ c ∈ l, 48 ≤ c ∧ c ≤ 57) →
    (l.foldl (fun n c => if n ≤ 922337203685477580 then n * 10 + (c - 48) else 18446744073709551615) a = l.foldl (fun n c => n * 10 + (c - 48)) b ∨
      (922337203685477580 < l.foldl (fun n c => if n ≤ 922337203685477580 then n * 10 + (c - 48) else 18446744073709551615) a ∧ 922337203685477580 < l.foldl (fun n c => n * 10 + (c - 48)) b))
  | [], a, b, _, h, _ => h
  | c :: l, a, b, h0, h, hd => by
    have hc := hd c (by simp)
    rw [List.foldl_cons, List.foldl_cons]
    refine satU_go2 l _ _ (by omega) ?_ (fun x hx => hd x (by simp [hx]))
    by_cases ha : a ≤ 922337203685477580
    · rw [if_pos ha]; omega
    · rw [if_neg ha]; omega
theorem sat_same (L : Nat) (hL : L ≤ 1099511627776) (l : List Int) (hd : ∀ c ∈ l, 48 ≤ c ∧ c ≤ 57) : (satU l = satG L l ∧ satU l ≤ L) ∨ ((L : Int) < satU l ∧ (L : Int) < satG L l) := by
  have h1 := satG_go L l 0 0 (by omega) (Or.inl rfl) hd
  have h2 := satU_go2 l 0 0 (by omega) (Or.inl rfl) hd
  unfold satU satG
  omega
theorem satG_bd (L : Nat) : ∀ (l : List Int) (a : Int), 0 ≤ a → a ≤ 10 * L + 9 → (∀ c ∈ l, 48 ≤ c ∧ c ≤ 57) →
    0 ≤ l.foldl (fun n c => if n ≤ (L : Int) then n * 10 + (c - 48) else n) a ∧ l.foldl (fun n c => if n ≤ (L : Int) then n * 10 + (c - 48) else n) a ≤ 10 * L + 9
  | [], a, h0, h1, _ => ⟨h0, h1⟩
  | c :: l, a, h0, h1, h => by
    have hc := h c (by simp)
    rw [List.foldl_cons]
    by_cases ha : a ≤ L
    · rw [if_pos ha]; exact satG_bd L l _ (by omega) (by omega) (fun x hx => h x (by simp [hx]))
    · rw [if_neg ha]; exact satG_bd L l _ h0 h1 (fun x hx => h x (by simp [hx]))

theorem retTrip {a b : Int} {x y : Value} (h : a = b) : Ending.returned (.tuple #[x, y, .int .i64 a]) = .returned (.tuple #[x, y, .int .i64 b]) := by rw [h]

set_option maxHeartbeats 1000000 in
set_option maxRecDepth 100000 in
theorem wf_yes (g k n cap : Nat) (xs : List Int) (w : World) (hn : xs.length = n) (hbig : n ≤ 1099511627776)
    (hx : ∀ i, i < n → w.cell? ⟨g, i, none⟩ = some (.int .u8 (xs.getD i 0))) (hk0 : 0 < k) (hkn : k < n)
    (hdig : ∀ i, 0 ≤ i → i < k → 48 ≤ xs.getD i 0 ∧ xs.getD i 0 ≤ 57) (hcol : xs.getD k 0 = 58) (hz : ¬ (xs.getD 0 0 = 48 ∧ 1 < k)) (hv : satG n (seg xs 0 k) + (k + 1) ≤ n) :
    Calls Tryf.prog 7 #[.slice (some ⟨g, 0, none⟩) n cap] w
      fun e w' => e = .returned (.tuple #[.bool true, .int .i64 (k + 1), .int .i64 (satG n (seg xs 0 k))]) ∧ w' = w := by
  have HX := hid hx
  have HD := hid hdig
  have HC := hid hcol
  have HZ := hid hz
  have HV := hid hv
  have HN := hid hn
  clear hx hdig hn hcol hz hv
  go_enter Tryf.func7, Tryf.ntmps7
  go_wp2
  go_loop [5, 6] (fun i v => ∃ j : Nat, j ≤ k ∧ i = .int .i64 j ∧ v = .int .i64 (satG n (seg xs 0 j))) (fun i _ => k - (intOf i).toNat)
  case atStart => exact ⟨0, Nat.zero_le _, rfl, by simp [seg, satG]⟩
  case round =>
    obtain ⟨j, hj1, rfl, rfl⟩ := hrel
    by_cases hlt : j < k
    · have hb := satG_bd n (seg xs 0 j) 0 (by omega) (by omega) (seg_mem xs 0 j n (Hid.out HN) (by omega) (fun i h1 h2 => Hid.out HD i h1 (by omega)))
      have hs : Hid (satG n (seg xs 0 (j + 1)) = if satG n (seg xs 0 j) ≤ n then satG n (seg xs 0 j) * 10 + (xs.getD j 0 - 48) else satG n (seg xs 0 j)) := by rw [seg_snoc xs 0 j (Nat.zero_le _) (by rw [Hid.out HN]; omega)]; exact satG_snoc _ _ _
      have hcj := Hid.out HX j (by omega)
      have hdj := Hid.out HD j (Nat.zero_le _) hlt
      have hb' : 0 ≤ satG n (seg xs 0 j) ∧ satG n (seg xs 0 j) ≤ 10 * n + 9 := hb
      clear hb
      generalize satG n (seg xs 0 j) = v at hb' hs ⊢
      generalize xs.getD j 0 = c at hcj hdj hs
      obtain ⟨hc0, hc1⟩ := hdj
      obtain ⟨hv0, hv1⟩ := hb'
      by_cases hvv : v ≤ n
      · go_wp2
        go_round
        case rel => exact ⟨j + 1, by omega, by go_num, valInt (by rw [hs.out, if_pos hvv])⟩
        case measure => simp [intOf]; omega
      · go_wp2
        go_round
        case rel => exact ⟨j + 1, by omega, by go_num, valInt (by rw [hs.out, if_neg hvv])⟩
        case measure => simp [intOf]; omega
    · obtain rfl : j = k := by omega
      have hb : 0 ≤ satG n (seg xs 0 j) ∧ satG n (seg xs 0 j) ≤ 10 * n + 9 := satG_bd n (seg xs 0 j) 0 (by omega) (by omega) (seg_mem xs 0 j n (Hid.out HN) (by omega) (Hid.out HD))
      have hcj : w.cell? ⟨g, j, none⟩ = some (.int .u8 58) := by rw [Hid.out HX j hkn, Hid.out HC]
      have hcp := Hid.out HX 0 (by omega)
      have hz' := Hid.out HZ
      have hv' := Hid.out HV
      have hj0b : ((j : Int) == 0) = false := by rw [beq_eq_false_iff_ne]; omega
      have hjnb : ((j : Int) == (n : Int)) = false := by rw [beq_eq_false_iff_ne]; omega
      obtain ⟨v, hve⟩ : ∃ v, Hid (satG n (seg xs 0 j) = v) := ⟨_, rfl⟩
      rw [Hid.out hve] at hb hv' ⊢
      generalize xs.getD 0 0 = c at hcp hz'
      obtain ⟨hv0, hv1⟩ := hb
      clear HV HZ HC HX HD HN
      by_cases h48 : c = 48
      · obtain rfl : j = 1 := by omega
        subst h48
        go_wp2
        go_ret3
        exact ⟨retTrip hve.out.symm, rfl⟩
      · have h48' : (c == 48) = false := by simpa using h48
        go_wp2
        go_ret3
        exact ⟨retTrip hve.out.symm, rfl⟩

set_option maxHeartbeats 1000000 in
theorem wf_zero (g n cap : Nat) (xs : List Int) (w : World) (_hbig : n ≤ 1099511627776) (hn0 : 0 < n)
    (hx : ∀ i, i < n → w.cell? ⟨g, i, none⟩ = some (.int .u8 (xs.getD i 0))) (hg : ¬ (48 ≤ xs.getD 0 0 ∧ xs.getD 0 0 ≤ 57)) :
    Calls Tryf.prog 7 #[.slice (some ⟨g, 0, none⟩) n cap] w fun e w' => e = .returned (.tuple #[.bool false, .int .i64 0, .int .i64 0]) ∧ w' = w := by
  have hc0 := hx 0 hn0
  generalize xs.getD 0 0 = c at hc0 hg
  clear hx
  go_enter Tryf.func7, Tryf.ntmps7
  go_wp2
  go_loop [5, 6] (fun i v => i = .int .i64 0 ∧ v = .int .i64 0) (fun _ _ => 0)
  case atStart => exact ⟨rfl, rfl⟩
  case round =>
    obtain ⟨rfl, rfl⟩ := hrel
    by_cases h9 : c ≤ 57
    · have h8 : ¬ 48 ≤ c := fun h => hg ⟨h, h9⟩
      clear hg
      go_wp2
      go_ret3
      exact ⟨rfl, rfl⟩
    · have h8 : 48 ≤ c := by omega
      clear hg
      go_wp2
      go_ret3
      exact ⟨rfl, rfl⟩

set_option maxHeartbeats 1000000 in
theorem wf_none (a : Option Addr) (cap : Nat) (w : World) :
    Calls Tryf.prog 7 #[.slice a 0 cap] w fun e w' => e = .returned (.tuple #[.bool false, .int .i64 0, .int .i64 0]) ∧ w' = w := by
  go_enter Tryf.func7, Tryf.ntmps7
  go_wp2
  go_loop [5, 6] (fun i v => i = .int .i64 0 ∧ v = .int .i64 0) (fun _ _ => 0)
  case atStart => exact ⟨rfl, rfl⟩
  case round =>
    obtain ⟨rfl, rfl⟩ := hrel
    go_wp2
    go_ret3
    exact ⟨rfl, rfl⟩

end Go.Proofs.Qxb6612599aFmt
