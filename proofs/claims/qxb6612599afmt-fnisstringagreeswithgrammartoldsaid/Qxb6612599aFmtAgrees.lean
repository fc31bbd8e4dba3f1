import Derived.Test.Qxb6612599aFmtTop
import Derived.OpenShut
namespace Go.Proofs.Qxb6612599aFmt
open Go.RowKit Go.Extern.Stop Go.Stop Go.Extern

set_option maxHeartbeats 1000000 in
theorem clone_zero (a : Addr) (cap : Nat) (w : World) :
    Calls Tryf.prog 6 #[.slice (some a) 0 cap] w
      fun e w' => e = .returned (.slice (some ⟨w.heap.size, 0, none⟩) 0 0) ∧ Below w.heap.size w w' ∧ w'.heap.size = w.heap.size + 1 := by
  have hnn := fun (w : World) (a : Option Addr) (n c n' c' : Nat) => Lib.run_eql_slice_nil (P := Tryf.prog) w 22 5 a n c n' c' Tryf.underlying22
  have hmk : ∀ w, (Instr.makeSlice 22 (.int .i64 0) (.int .i64 0)).run Tryf.prog w = .ok (.slice (some ⟨w.heap.size, 0, none⟩) 0 0) (w.alloc (.cells (madeCells #[.int .u8 0] 0) 5)) :=
    fun (w : World) => run_make_row' (P := Tryf.prog) 22 5 (.int .u8 0) 1 Tryf.underlying22 info5 rfl .i64 .i64 0 (by omega) (by omega) w
  go_enter Tryf.func6, Tryf.ntmps6
  go_wp2
  go_loop [4] (fun i => i = .int .i64 0) (fun _ => 0)
  case atStart => rfl
  case round =>
    subst hrel
    go_wp2
    go_ret
    exact ⟨rfl, (Below.refl _ _).alloc (Nat.le_refl _) _, by simp⟩

theorem good_none (xs : List Int) (h : xs.length = 0) : ∀ k, ¬ Good xs 0 k := fun k G => by have := G.kn; omega

set_option maxHeartbeats 1000000 in
theorem top_zero (F : Interp) (a : Addr) (cap : Nat) (w : World) (hF : F.answers w.tape) :
    Calls Tryf.prog 3 #[.slice (some a) 0 cap] w fun e w' => e = .returned (.bool true) ∧ Below w.heap.size w w' := by
  go_enter Tryf.func3, Tryf.ntmps3
  go_wp2_with (first | (go_at_call 5; refine (swapW (bytes5_yes _ _ _ _ (by omega))).mono ?_; rintro e w' ⟨rfl, rfl⟩))
  refine (clone_zero a cap w).mono ?_
  rintro e w1 ⟨rfl, hb1, hz1⟩
  have HZ := hid hz1
  clear hz1
  go_wp2_with fail
  refine (swapW (wf_none _ _ w1)).mono ?_
  rintro e w' ⟨rfl, rfl⟩
  go_wp2_with (first | (go_at_call 9; refine (new9 _ _ _ _ _ rfl).mono ?_; rintro e w' ⟨rfl, rfl⟩))
  refine (dis_no (dec_no F w.heap.size 0 0 [] _ (by rw [hb1.tape]; exact hF) rfl (by omega) (Nat.le_refl _) (by rw [Hid.out HZ]; omega) (fun i hi => by omega) (good_none [] rfl))).mono ?_
  rintro e w2 ⟨rfl, hb2⟩
  go_wp2_with (first | (go_at_call 9; refine (new9 _ _ _ _ _ rfl).mono ?_; rintro e w' ⟨rfl, rfl⟩))
  refine (dst_no (dec_no F w.heap.size 0 0 [] _ (by rw [hb2.tape, hb1.tape]; exact hF) rfl (by omega) (Nat.le_refl _) (by have := hb2.size; rw [Hid.out HZ] at this; omega) (fun i hi => by omega) (good_none [] rfl))).mono ?_
  rintro e w3 ⟨x, rfl, hb3⟩
  go_wp2
  go_ret
  exact ⟨rfl, (hb1.trans (hb2.mono hb1.size)).trans (hb3.mono (Nat.le_trans hb1.size hb2.size))⟩

theorem cell_lt {w : World} {g j : Nat} {v : Value} (h : w.cell? ⟨g, j, none⟩ = some v) : g < w.heap.size := by
  by_cases hg : g < w.heap.size
  · exact hg
  · simp [World.cell?, Array.getElem?_eq_none (show w.heap.size ≤ g by omega)] at h

theorem sat_nat (xs : List Int) (k : Nat) (G : Good xs 0 k) : ∃ v : Nat, satU (seg xs 0 k) = v :=
  ⟨(satU (seg xs 0 k)).toNat, by have := satU_nn xs 0 k (Nat.le_of_lt G.kn) G.dig; omega⟩

/-- THE LAW's WALK at a slice that is not nil: whatever its address where it is empty. -/
theorem top_some (F : Interp) (a : Addr) (n cap : Nat) (zs : List Int) (w : World) (hF : F.answers w.tape) (hm : n ≤ maxLen) (hn : n ≤ zs.length)
    (hc : ∀ i, i < zs.length → w.cell? (a.add i) = some (.int .u8 (zs.getD i 0))) (hw : ∀ z ∈ zs, 0 ≤ z ∧ z ≤ 255) :
    Calls Tryf.prog 3 #[.slice (some a) n cap] w fun e w' => e = .returned (.bool true) ∧ Below w.heap.size w w' := by
  by_cases hbig : 1048576 < n
  · exact top_big _ n cap w hm hbig
  · by_cases h0 : n = 0
    · subst h0; exact top_zero F a cap w hF
    · obtain ⟨g, o, rfl, hx⟩ := ints_at hc (by omega)
      have hlen : (zs.take n).length = n := by rw [List.length_take]; omega
      have hget : ∀ i, i < n → (zs.take n).getD i 0 = zs.getD i 0 := fun i hi => by rw [List.getD_eq_getElem?_getD, List.getD_eq_getElem?_getD, List.getElem?_take_of_lt hi]
      have hx' : ∀ i, i < n → w.cell? ⟨g, o + i, none⟩ = some (.int .u8 ((zs.take n).getD i 0)) := fun i hi => by rw [hget i hi]; exact hx i (by omega)
      have hwf : ∀ i, 0 ≤ (zs.take n).getD i 0 ∧ (zs.take n).getD i 0 ≤ 255 := by
        intro i
        by_cases hi : i < n
        · rw [hget i hi, List.getD_eq_getElem?_getD, List.getElem?_eq_getElem (by omega)]
          exact hw _ (List.getElem_mem _)
        · rw [List.getD_eq_getElem?_getD, List.getElem?_eq_none (by omega)]; simp
      have hgz : n ≠ 0 → g < w.heap.size := fun _ => cell_lt (hx' 0 (by omega))
      by_cases hG : ∃ k, Good (zs.take n) 0 k
      · obtain ⟨k, G⟩ := hG
        obtain ⟨v, hv⟩ := sat_nat _ k G
        exact top_yes g o n cap k v (zs.take n) w hlen (by omega) hgz hx' hwf G hv
      · exact top_no F g o n cap (zs.take n) w hF hlen (by omega) hgz hx' (fun k G => hG ⟨k, G⟩)
end Go.Proofs.Qxb6612599aFmt
