import Derived.Test.Qxb6612599aFmtStr
import Derived.Deep.OwnRows
namespace Go.Proofs.Qxb6612599aFmt
open Go.RowKit Go.Extern.Stop Go.Stop Go.Extern

theorem info5 : (Tryf.prog.info? 5).map (fun i => (i.zero, i.size, i.bytes)) = some (some (.int .u8 0), 1, 1) := by kernel_rfl

set_option maxHeartbeats 400000 in
theorem clone_nil (w : World) : Calls Tryf.prog 6 #[.slice none 0 0] w fun e w' => e = .returned (.slice none 0 0) ∧ w' = w := by
  have hnn := fun (w : World) (a : Option Addr) (n c n' c' : Nat) => Lib.run_eql_slice_nil (P := Tryf.prog) w 22 5 a n c n' c' Tryf.underlying22
  go_enter Tryf.func6, Tryf.ntmps6
  go_wp2
  go_ret
  exact ⟨rfl, rfl⟩

/-- The row as the copy goes. -/
def cpf (xs : List Int) (k j : Nat) : Value := if j < k then .int .u8 (xs.getD j 0) else .int .u8 0
theorem cpf_set (xs : List Int) (k j : Nat) : (if j = k then Value.int .u8 (xs.getD k 0) else cpf xs k j) = cpf xs (k + 1) j := by
  unfold cpf
  by_cases h : j = k
  · subst h; simp
  · by_cases h2 : j < k
    · rw [if_neg h, if_pos h2, if_pos (by omega)]
    · rw [if_neg h, if_neg h2, if_neg (by omega)]

set_option maxHeartbeats 1000000 in
theorem clone_some (g o n cap : Nat) (xs : List Int) (w : World) (hbig : n ≤ 1099511627776) (hgz : n ≠ 0 → g < w.heap.size)
    (hx : ∀ i, i < n → w.cell? ⟨g, o + i, none⟩ = some (.int .u8 (xs.getD i 0))) :
    Calls Tryf.prog 6 #[.slice (some ⟨g, o, none⟩) n cap] w
      fun e w' => e = .returned (.slice (some ⟨w.heap.size, 0, none⟩) n n) ∧ Below w.heap.size w w' ∧ w'.heap.size = w.heap.size + 1 ∧ ∀ i, i < n → w'.cell? ⟨w.heap.size, i, none⟩ = some (.int .u8 (xs.getD i 0)) := by
  have hnn := fun (w : World) (a : Option Addr) (n c n' c' : Nat) => Lib.run_eql_slice_nil (P := Tryf.prog) w 22 5 a n c n' c' Tryf.underlying22
  have hmk := fun (w : World) => run_make_row' (P := Tryf.prog) 22 5 (.int .u8 0) 1 Tryf.underlying22 info5 rfl .i64 .i64 n (by omega) (by omega) w
  have HX := hid hx
  clear hx
  go_enter Tryf.func6, Tryf.ntmps6
  go_wp2
  go_loopw [4] (fun i wr => ∃ k : Nat, k ≤ n ∧ i = .int .i64 k ∧ Below w.heap.size w wr ∧ wr.heap.size = w.heap.size + 1 ∧ Hid (wr.rowIs w.heap.size 5 n (cpf xs k))) (fun i _ => n - (intOf i).toNat)
  case atStart => exact ⟨0, Nat.zero_le _, rfl, (Below.refl _ _).alloc (Nat.le_refl _) _, by simp, (World.rowIs_made w (.int .u8 0) n 5).congr (fun i _ => by simp [cpf])⟩
  case round =>
    obtain ⟨k, hk, rfl, hb, hz, hrow⟩ := hrel
    by_cases hlt : k < n
    · have hcell : wr.cell? ⟨g, o + k, none⟩ = some (.int .u8 (xs.getD k 0)) := by
        rw [hb.cell (p := ⟨g, o + k, none⟩) (hgz (by omega)), Hid.out HX k hlt]
      have hfz : wr.frozen? ⟨w.heap.size, k, none⟩ = false := (Hid.out hrow).frozen k
      have hown := (Hid.out hrow).cell hlt
      generalize hcv : cpf xs k k = cv at hown
      clear hmk hnn
      go_wp2
      go_roundw
      case rel => exact ⟨k + 1, by omega, by go_num, hb.setCell (Nat.le_refl _) _, by simpa using hz, ((Hid.out hrow).set k _).congr (fun i _ => cpf_set xs k i)⟩
      case measure => simp [intOf]; omega
    · obtain rfl : k = n := by omega
      clear hmk hnn
      go_wp2
      go_ret
      exact ⟨rfl, hb, hz, fun i hi => by rw [(Hid.out hrow).cell hi]; simp [cpf, hi]⟩

set_option maxHeartbeats 400000 in
theorem bytes5_no (a : Option Addr) (n cap : Nat) (w : World) (hm : n ≤ maxLen) (h : 1048576 < n) :
    Calls Tryf.prog 5 #[.slice a n cap] w fun e w' => e = .returned (.bool false) ∧ w' = w := by
  unfold maxLen at hm
  go_enter Tryf.func5, Tryf.ntmps5
  go_wp2
  go_ret
  exact ⟨rfl, rfl⟩

set_option maxHeartbeats 400000 in
theorem bytes5_yes (a : Option Addr) (n cap : Nat) (w : World) (h : n ≤ 1048576) :
    Calls Tryf.prog 5 #[.slice a n cap] w fun e w' => e = .returned (.bool true) ∧ w' = w := by
  go_enter Tryf.func5, Tryf.ntmps5
  go_wp2
  go_ret
  exact ⟨rfl, rfl⟩
end Go.Proofs.Qxb6612599aFmt
