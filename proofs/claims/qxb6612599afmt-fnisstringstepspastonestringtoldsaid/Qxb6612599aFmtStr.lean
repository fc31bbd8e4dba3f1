import Derived.Test.Qxb6612599aFmtBytes
import Derived.Laws.IdiomStrings
import Derived.Lib.BufferRead
namespace Go.Proofs.Qxb6612599aFmt
open Go.RowKit Go.Extern.Stop Go.Stop Go.Extern

set_option maxHeartbeats 400000 in
theorem new9 (V : Value) (w : World) (a : Option Addr) (n c : Nat) (hV : V = .slice a n c) :
    Calls Tryf.prog 9 #[V] w fun e w' => e = .returned (.pointer (some ⟨w.heap.size, 0, none⟩)) ∧ w' = w.alloc (.cells #[V, .int .i64 0, .int .i64 0] 37) := by
  subst hV
  go_enter Tryf.func9, Tryf.ntmps9
  go_wp2
  go_ret
  exact ⟨rfl, rfl⟩

set_option maxHeartbeats 400000 in
theorem is_no (b : Nat) (w : World) (c14 : BytesNo b w) :
    Calls Tryf.prog 8 #[.pointer (some ⟨b, 0, none⟩)] w fun e w' => e = .returned (.bool false) ∧ Below b w w' := by
  have C := hid c14
  clear c14
  go_enter Tryf.func8, Tryf.ntmps8
  go_wp2_with (first | (go_at_call 14; refine (show Calls _ _ _ _ _ from Hid.out C).mono ?_; rintro e w' ⟨x, rfl, hb⟩) | go_in)
  go_ret
  exact ⟨rfl, hb⟩

set_option maxHeartbeats 400000 in
theorem str_no (b : Nat) (w : World) (c14 : BytesNo b w) :
    Calls Tryf.prog 10 #[.pointer (some ⟨b, 0, none⟩)] w fun e w' => ∃ x, e = .returned (.tuple #[.string ⟨#[]⟩, .iface 54 (.pointer (some x))]) ∧ Below b w w' := by
  have C := hid c14
  clear c14
  have hcv := fun (w : World) => Lib.run_convert_nil_bytes (P := Tryf.prog) w 22 9 5 0 Tryf.underlying22 Tryf.underlying5 Tryf.underlying9
  go_enter Tryf.func10, Tryf.ntmps10
  go_wp2_with (first | (go_at_call 14; refine (show Calls _ _ _ _ _ from Hid.out C).mono ?_; rintro e w' ⟨x, rfl, hb⟩))
  go_ret2
  exact ⟨x, rfl, hb⟩

/-- What 'Bytes' comes to where a string stands. -/
def BytesYes (g b k v : Nat) (w : World) : Prop :=
  Calls Tryf.prog 14 #[.pointer (some ⟨b, 0, none⟩)] w
      fun e w' => ∃ o, e = .returned (.tuple #[.slice (some ⟨g, o, none⟩) v v, .nilIface]) ∧ (v = 0 ∨ o = k + 1) ∧ ∃ m, w' = (w.setCell ⟨b, 1, none⟩ (.int .i64 (k + 1 + v))).drewN m

set_option maxHeartbeats 400000 in
theorem is_yes (g b k v : Nat) (w : World) (c14 : BytesYes g b k v w) :
    Calls Tryf.prog 8 #[.pointer (some ⟨b, 0, none⟩)] w fun e w' => e = .returned (.bool true) ∧ ∃ m, w' = (w.setCell ⟨b, 1, none⟩ (.int .i64 (k + 1 + v))).drewN m := by
  have C := hid c14
  clear c14
  go_enter Tryf.func8, Tryf.ntmps8
  go_wp2_with (first | (go_at_call 14; refine (show Calls _ _ _ _ _ from Hid.out C).mono ?_; rintro e w' ⟨o, rfl, ho, m, rfl⟩) | go_in)
  go_ret
  exact ⟨rfl, m, rfl⟩

def bys (xs : List Int) : List UInt8 := xs.map fun x => x.toNat.toUInt8
theorem bys_get (xs : List Int) (a v n : Nat) (hn : xs.length = n) (hav : a + v ≤ n) (hwf : ∀ i, 0 ≤ xs.getD i 0 ∧ xs.getD i 0 ≤ 255) (j : Nat) (hj : j < (bys (seg xs a (a + v))).length) :
    ((bys (seg xs a (a + v)))[j].toNat : Int) = xs.getD (a + j) 0 := by
  have hj2 : j < v := by unfold bys at hj; rw [List.length_map, seg_len xs a (a + v) n hn hav] at hj; omega
  have h := hwf (a + j)
  have e : (bys (seg xs a (a + v)))[j] = (xs.getD (a + j) 0).toNat.toUInt8 := by
    have q : (bys (seg xs a (a + v)))[j]? = some ((xs.getD (a + j) 0).toNat.toUInt8) := by
      unfold bys seg
      rw [List.getElem?_map, List.getElem?_take_of_lt (by omega), List.getElem?_drop, List.getD_eq_getElem?_getD, List.getElem?_eq_getElem (by omega)]
      rfl
    exact (List.getElem?_eq_some_iff.1 q).2
  rw [e]
  have e2 : (xs.getD (a + j) 0).toNat.toUInt8.toNat = (xs.getD (a + j) 0).toNat % 256 := by simp
  rw [e2]
  omega
set_option maxHeartbeats 400000 in
theorem str_yes (g b k v n : Nat) (xs : List Int) (w : World) (hn : xs.length = n) (hx : ∀ i, i < n → w.cell? ⟨g, i, none⟩ = some (.int .u8 (xs.getD i 0))) (hwf : ∀ i, 0 ≤ xs.getD i 0 ∧ xs.getD i 0 ≤ 255)
    (hgb : g < b) (hfit : v + (k + 1) ≤ n) (c14 : BytesYes g b k v w) :
    Calls Tryf.prog 10 #[.pointer (some ⟨b, 0, none⟩)] w
      fun e w' => e = .returned (.tuple #[.string ⟨(bys (seg xs (k + 1) (k + 1 + v))).toArray⟩, .nilIface]) ∧ ∃ m, w' = (w.setCell ⟨b, 1, none⟩ (.int .i64 (k + 1 + v))).drewN m := by
  have C := hid c14
  clear c14
  have hlen : (bys (seg xs (k + 1) (k + 1 + v))).length = v := by
    unfold bys; rw [List.length_map, seg_len xs (k + 1) (k + 1 + v) n hn (by omega)]; omega
  have hcv : ∀ m o, (v = 0 ∨ o = k + 1) → (convert 22 9 (.slice (some ⟨g, o, none⟩) v v)).run Tryf.prog ((w.setCell ⟨b, 1, none⟩ (.int .i64 (k + 1 + v))).drewN m) = .ok (.string ⟨(bys (seg xs (k + 1) (k + 1 + v))).toArray⟩) ((w.setCell ⟨b, 1, none⟩ (.int .i64 (k + 1 + v))).drewN m) := by
    intro m o ho
    have h := run_convert_bytes_back (P := Tryf.prog) ((w.setCell ⟨b, 1, none⟩ (.int .i64 (k + 1 + v))).drewN m) 22 9 5 ⟨g, o, none⟩ v (bys (seg xs (k + 1) (k + 1 + v))) Tryf.underlying22 Tryf.underlying5 Tryf.underlying9 ?_
    · rw [hlen] at h; exact h
    · intro j hj
      rw [hlen] at hj
      obtain rfl : o = k + 1 := by omega
      have e : (⟨g, k + 1, none⟩ : Addr).add j = ⟨g, k + 1 + j, none⟩ := by unfold Addr.add; split <;> simp_all
      rw [e]
      show (w.setCell ⟨b, 1, none⟩ (.int .i64 (k + 1 + v))).cell? ⟨g, k + 1 + j, none⟩ = _
      rw [World.cell?_setCell_other _ _ _ _ (fun h => absurd (congrArg Addr.block h) (show ¬ b = g by omega)), hx _ (by omega), ← bys_get xs (k + 1) v n hn (by omega) hwf j (by rw [hlen]; exact hj)]
  have HC := hid hcv
  clear hcv
  go_enter Tryf.func10, Tryf.ntmps10
  go_wp2_with (first | (go_at_call 14; refine (show Calls _ _ _ _ _ from Hid.out C).mono ?_; rintro e w' ⟨o, rfl, ho, m, rfl⟩; have hcc := Hid.out HC m o ho))
  go_ret2
  exact ⟨rfl, m, rfl⟩
end Go.Proofs.Qxb6612599aFmt
