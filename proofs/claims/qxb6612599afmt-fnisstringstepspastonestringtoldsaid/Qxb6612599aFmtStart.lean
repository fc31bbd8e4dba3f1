import Derived.Test.Qxb6612599aFmtErr
import Derived.Deep.QuietTactic
import Derived.BigQuiet
namespace Go.Proofs.Qxb6612599aFmt
open Go.RowKit Go.Extern.Stop Go.Stop Go.Extern

theorem bdr (B : Nat) (w : World) (m : Nat) : Below B w (w.drewN m) := ⟨rfl, rfl, rfl, Nat.le_refl _, fun _ _ => rfl⟩

theorem cell_newN (w : World) (m : Nat) (C : Array Value) (T : TypeId) (j : Nat) (v : Value) (h : C[j]? = some v) : ((w.drewN m).alloc (.cells C T)).cell? ⟨w.heap.size, j, none⟩ = some v := by
  show (w.alloc (.cells C T)).cell? ⟨w.heap.size, j, none⟩ = some v
  rw [World.cell?_alloc_new]
  exact h

set_option maxHeartbeats 400000 in
theorem kind_dig (c : Int) (w : World) (h0 : 48 ≤ c) (h1 : c ≤ 57) :
    Calls Tryf.prog 20 #[.int .u8 c] w fun e w' => e = .returned (.string ⟨#[97, 32, 115, 116, 114, 105, 110, 103]⟩) ∧ w' = w := by
  go_enter Tryf.func20, Tryf.ntmps20
  go_wp2
  all_goals (first | (exfalso; omega) | (go_ret; exact ⟨rfl, rfl⟩))

/-- What 'kind' says of a byte that is no digit. -/
def kindP (c : Int) : ByteArray := if (c == 105) = true then ⟨#[97, 110, 32, 105, 110, 116, 101, 103, 101, 114]⟩ else if (c == 108) = true then ⟨#[97, 32, 108, 105, 115, 116]⟩ else if (c == 100) = true then ⟨#[97, 32, 100, 105, 99, 116, 105, 111, 110, 97, 114, 121]⟩ else ⟨#[]⟩

set_option maxHeartbeats 400000 in
theorem kind_no (c : Int) (w : World) (h : ¬ (48 ≤ c ∧ c ≤ 57)) :
    Calls Tryf.prog 20 #[.int .u8 c] w fun e w' => e = .returned (.string (kindP c)) ∧ w' = w := by
  go_enter Tryf.func20, Tryf.ntmps20
  go_wp2
  all_goals
    go_ret
    refine ⟨?_, rfl⟩
    simp [kindP, *]

set_option maxHeartbeats 400000 in
theorem peek_ok (g b k n cap : Nat) (c : Int) (w : World) (hd : w.cell? ⟨b, 0, none⟩ = some (.slice (some ⟨g, 0, none⟩) n cap)) (hp : w.cell? ⟨b, 1, none⟩ = some (.int .i64 k))
    (hk : k < n) (hc : w.cell? ⟨g, k, none⟩ = some (.int .u8 c)) :
    Calls Tryf.prog 19 #[.pointer (some ⟨b, 0, none⟩)] w fun e w' => e = .returned (.tuple #[.int .u8 c, .nilIface]) ∧ ∃ m, w' = w.drewN m := by
  go_enter Tryf.func19, Tryf.ntmps19
  go_wp2
  go_quiet (fail)
  go_wp2
  go_quiet (fail)
  go_wp2
  go_ret2
  exact ⟨rfl, _, World.drewN_drewN ..⟩

set_option maxHeartbeats 400000 in
theorem peek_end (F : Interp) (b n cap : Nat) (a : Option Addr) (w : World) (hF : F.answers w.tape) (hd : w.cell? ⟨b, 0, none⟩ = some (.slice a n cap)) (hp : w.cell? ⟨b, 1, none⟩ = some (.int .i64 n)) :
    Calls Tryf.prog 19 #[.pointer (some ⟨b, 0, none⟩)] w fun e w' => ∃ x, e = .returned (.tuple #[.int .u8 0, .iface 54 (.pointer (some x))]) ∧ Below w.heap.size w w' := by
  go_enter Tryf.func19, Tryf.ntmps19
  go_wp2
  go_quiet (fail)
  go_wp2_with (go_at_call 18; refine (show Calls _ _ _ _ _ from err_end F b n _ (by exact hF) (by exact hp)).mono ?_; rintro e w' ⟨x, rfl, hb⟩)
  go_ret2
  exact ⟨x, rfl, (bdr _ w nq).trans hb⟩

set_option maxHeartbeats 400000 in
theorem start_ok (g b k n cap : Nat) (c : Int) (w : World) (hd : w.cell? ⟨b, 0, none⟩ = some (.slice (some ⟨g, 0, none⟩) n cap)) (hp : w.cell? ⟨b, 1, none⟩ = some (.int .i64 k))
    (hk : k < n) (hc : w.cell? ⟨g, k, none⟩ = some (.int .u8 c)) (h0 : 48 ≤ c) (h1 : c ≤ 57) :
    Calls Tryf.prog 16 #[.pointer (some ⟨b, 0, none⟩), .string ⟨#[97, 32, 115, 116, 114, 105, 110, 103]⟩] w fun e w' => e = .returned .nilIface ∧ ∃ m, w' = w.drewN m := by
  go_enter Tryf.func16, Tryf.ntmps16
  go_wp2_with (first | (go_at_call 19; refine (peek_ok g b k n cap c _ hd hp hk hc).mono ?_; rintro e w' ⟨rfl, m, rfl⟩) | (go_at_call 20; refine (kind_dig c _ h0 h1).mono ?_; rintro e w' ⟨rfl, rfl⟩))
  go_ret
  exact ⟨rfl, m, rfl⟩

set_option maxHeartbeats 400000 in
theorem start_end (F : Interp) (b n cap : Nat) (a : Option Addr) (w : World) (hF : F.answers w.tape) (hd : w.cell? ⟨b, 0, none⟩ = some (.slice a n cap)) (hp : w.cell? ⟨b, 1, none⟩ = some (.int .i64 n)) :
    Calls Tryf.prog 16 #[.pointer (some ⟨b, 0, none⟩), .string ⟨#[97, 32, 115, 116, 114, 105, 110, 103]⟩] w fun e w' => ∃ x, e = .returned (.iface 54 (.pointer (some x))) ∧ Below w.heap.size w w' := by
  go_enter Tryf.func16, Tryf.ntmps16
  go_wp2_with (first | (go_at_call 19; refine (peek_end F b n cap a _ hF hd hp).mono ?_; rintro e w' ⟨x, rfl, hb⟩))
  go_ret
  exact ⟨x, rfl, hb⟩

theorem err_want2 (F : Interp) (b : Nat) (p : Int) (c : Nat) (w : World) (hF : F.answers w.tape) (hpos : w.cell? ⟨b, 1, none⟩ = some (.int .i64 p))
    (hc : ∃ x y, w.cell? ⟨c, 0, none⟩ = some (.iface 9 (.string x)) ∧ w.cell? ⟨c, 1, none⟩ = some (.iface 9 (.string y))) :
    ErrAt b ⟨#[119, 97, 110, 116, 32, 37, 115, 44, 32, 102, 111, 117, 110, 100, 32, 37, 115]⟩ (.slice (some ⟨c, 0, none⟩) 2 2) w := by
  obtain ⟨x, y, h1, h2⟩ := hc
  exact err_want F b p x y c w hF hpos h1 h2

set_option maxHeartbeats 1000000 in
theorem start_no (F : Interp) (g b k n cap : Nat) (c : Int) (w : World) (hF : F.answers w.tape) (hd : w.cell? ⟨b, 0, none⟩ = some (.slice (some ⟨g, 0, none⟩) n cap)) (hp : w.cell? ⟨b, 1, none⟩ = some (.int .i64 k))
    (hbz : b < w.heap.size) (hk : k < n) (hc : w.cell? ⟨g, k, none⟩ = some (.int .u8 c)) (h : ¬ (48 ≤ c ∧ c ≤ 57)) :
    Calls Tryf.prog 16 #[.pointer (some ⟨b, 0, none⟩), .string ⟨#[97, 32, 115, 116, 114, 105, 110, 103]⟩] w fun e w' => ∃ x, e = .returned (.iface 54 (.pointer (some x))) ∧ Below w.heap.size w w' := by
  have hpb : ∀ o : Obj, (w.alloc o).cell? ⟨b, 1, none⟩ = some (.int .i64 k) := fun o => by rw [((Below.refl _ w).alloc (Nat.le_refl _) o).cell (p := ⟨b, 1, none⟩) hbz]; exact hp
  cases h5 : (c == 105) <;> cases h8 : (c == 108) <;> cases h0 : (c == 100)
  all_goals
    have HK : Hid (kindP c = if (c == 105) = true then ⟨#[97, 110, 32, 105, 110, 116, 101, 103, 101, 114]⟩ else if (c == 108) = true then ⟨#[97, 32, 108, 105, 115, 116]⟩ else if (c == 100) = true then ⟨#[97, 32, 100, 105, 99, 116, 105, 111, 110, 97, 114, 121]⟩ else ⟨#[]⟩) := rfl
    go_enter Tryf.func16, Tryf.ntmps16
    go_wp2_with (first | (go_at_call 19; refine (peek_ok g b k n cap c _ hd hp hk hc).mono ?_; rintro e w' ⟨rfl, m, rfl⟩) | (go_at_call 20; refine (kind_no c _ h).mono ?_; rintro e w' ⟨rfl, rfl⟩; rw [HK.out, h5, h8, h0]; simp only [Bool.false_eq_true, if_true, if_false]))
  · refine (show Calls _ _ _ _ _ from err_byte F b k c w.heap.size _ ?_ ?_ ?_).mono ?_
    · exact hF
    · exact hpb _
    · exact cell_newN w m _ _ 0 _ rfl
    rintro e w' ⟨x, rfl, hb⟩
    go_wp2
    go_ret
    exact ⟨x, rfl, (((bdr _ w m).alloc (Nat.le_refl _) _).trans (hb.mono (by simp)))⟩
  all_goals
    refine (show Calls _ _ _ _ _ from err_want2 F b k w.heap.size _ ?_ ?_ ?_).mono ?_
    · exact hF
    · exact hpb _
    · exact ⟨_, _, cell_newN w m _ _ 0 _ rfl, cell_newN w m _ _ 1 _ rfl⟩
    rintro e w' ⟨x, rfl, hb⟩
    go_wp2
    go_ret
    exact ⟨x, rfl, (((bdr _ w m).alloc (Nat.le_refl _) _).trans (hb.mono (by simp)))⟩
end Go.Proofs.Qxb6612599aFmt
