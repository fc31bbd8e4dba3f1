import Derived.Test.Qxb6612599aFmtNumCan
import Derived.Test.Qxb6612599aFmtNumRan
import Derived.Test.Qxb6612599aFmtNumEnd
import Derived.Test.Qxb6612599aFmtNumDec
namespace Go.Proofs.Qxb6612599aFmt
open Go.RowKit Go.Extern.Stop Go.Stop Go.Extern

/-- A canonical string stands at p: digits up to k, a colon there, no leading zero, and the bytes it names are there. -/
structure Good (xs : List Int) (p k : Nat) : Prop where
  pk : p < k
  kn : k < xs.length
  dig : ∀ i, p ≤ i → i < k → 48 ≤ xs.getD i 0 ∧ xs.getD i 0 ≤ 57
  col : xs.getD k 0 = 58
  can : ¬ (xs.getD p 0 = 48 ∧ 1 < k - p)
  fit : satU (seg xs p k) + (k + 1) ≤ xs.length

theorem set2 (w : World) (blk off : Nat) (v v' : Value) : (w.setCell ⟨blk, off, none⟩ v).setCell ⟨blk, off, none⟩ v' = w.setCell ⟨blk, off, none⟩ v' := by
  unfold World.setCell
  congr 1
  apply Array.ext
  · simp
  · intro i h1 h2
    simp only [Array.getElem_modify]
    split
    · have h0 : i < w.heap.size := by simpa using h2
      generalize w.heap[i] = o
      cases o <;> simp
    · rfl
theorem retSl {a : Option Addr} {x : Value} {v : Nat} (h : v = 0) : Ending.returned (.tuple #[.slice a 0 0, x]) = .returned (.tuple #[.slice a v v, x]) := by rw [h]
theorem setTwice (w : World) (blk off m1 m2 : Nat) (v v' : Value) : (((w.drewN m1).setCell ⟨blk, off, none⟩ v).drewN m2).setCell ⟨blk, off, none⟩ v' = (w.setCell ⟨blk, off, none⟩ v').drewN (m1 + m2) := by
  have e : (((w.drewN m1).setCell ⟨blk, off, none⟩ v).drewN m2).setCell ⟨blk, off, none⟩ v' = ((w.setCell ⟨blk, off, none⟩ v).setCell ⟨blk, off, none⟩ v').drewN (m1 + m2) := by
    unfold World.drewN World.setCell
    simp [Nat.add_assoc]
  rw [e, set2]
theorem hid {p : Prop} (h : p) : Hid p := h

theorem satU_nn (xs : List Int) (p k : Nat) (hkn : k ≤ xs.length) (hdig : ∀ i, p ≤ i → i < k → 48 ≤ xs.getD i 0 ∧ xs.getD i 0 ≤ 57) : 0 ≤ satU (seg xs p k) :=
  (satU_bd _ (seg_mem xs p k xs.length rfl hkn hdig)).1

set_option maxHeartbeats 1000000 in
set_option maxRecDepth 100000 in
theorem bytes_ok (g b p k n cap : Nat) (xs : List Int) (w : World) (hn : xs.length = n) (hbig : n ≤ 1099511627776) (hcap : n ≤ cap)
    (hd : w.cell? ⟨b, 0, none⟩ = some (.slice (some ⟨g, 0, none⟩) n cap)) (hp : w.cell? ⟨b, 1, none⟩ = some (.int .i64 p)) (hfz : w.frozen? ⟨b, 1, none⟩ = false)
    (hx : ∀ i, i < n → w.cell? ⟨g, i, none⟩ = some (.int .u8 (xs.getD i 0))) (G : Good xs p k) (v : Nat) (hv : satU (seg xs p k) = v) :
    Calls Tryf.prog 14 #[.pointer (some ⟨b, 0, none⟩)] w
      fun e w' => ∃ o, e = .returned (.tuple #[.slice (some ⟨g, o, none⟩) v v, .nilIface]) ∧ (v = 0 ∨ o = k + 1) ∧ ∃ m, w' = (w.setCell ⟨b, 1, none⟩ (.int .i64 (k + 1 + v))).drewN m := by
  have hkn : k < n := by have := G.kn; omega
  have hfit : v + (k + 1) ≤ n := by have := G.fit; omega
  have hpk := G.pk
  have hdp := G.dig p (Nat.le_refl _) hpk
  have c16 := start_ok g b p n cap _ w hd hp (by omega) (hx p (by omega)) hdp.1 hdp.2
  have c17 : ∀ m, Calls Tryf.prog 17 #[.pointer (some ⟨b, 0, none⟩), .int .u8 58, .bool false] (w.drewN m)
      fun e w' => e = .returned (.tuple #[.int .i64 (satU (seg xs p k)), .nilIface]) ∧ ∃ m', w' = ((w.drewN m).setCell ⟨b, 1, none⟩ (.int .i64 (k + 1))).drewN m' :=
    fun m => number_ok g b p k n cap xs (w.drewN m) hn hbig hcap hd hp hfz hx hpk hkn G.dig G.col G.can (by omega)
  rw [hv] at c17
  have hd2 : (w.setCell ⟨b, 1, none⟩ (.int .i64 (k + 1))).cell? ⟨b, 0, none⟩ = some (.slice (some ⟨g, 0, none⟩) n cap) := by
    rw [World.cell?_setCell_other]; exact hd; simp
  have hp2 : (w.setCell ⟨b, 1, none⟩ (.int .i64 (k + 1))).cell? ⟨b, 1, none⟩ = some (.int .i64 (k + 1)) := World.cell?_setCell_same _ _ _ hp
  have C16 := hid c16
  have C17 := hid c17
  clear c16 c17 hx G hv hn hdp
  go_enter Tryf.func14, Tryf.ntmps14
  go_wp2_with fail
  refine (Hid.out C16).mono ?_
  rintro e w' ⟨rfl, m, rfl⟩
  go_wp2_with fail
  refine (Hid.out C17 m).mono ?_
  rintro e w' ⟨rfl, m2, rfl⟩
  go_wp2
  go_quiet (fail)
  go_wp2
  go_quiet (fail)
  go_wp2
  · have hv0 : v = 0 := by omega
    go_ret2
    exact ⟨0, retSl hv0, Or.inl hv0, _, setTwice w b 1 _ _ _ _⟩
  · go_ret2
    exact ⟨k + 1, rfl, rfl, _, setTwice w b 1 _ _ _ _⟩

theorem dig_end (xs : List Int) : ∀ (d p : Nat), xs.length - p = d → p < xs.length → (48 ≤ xs.getD p 0 ∧ xs.getD p 0 ≤ 57) →
    ∃ k, p < k ∧ k ≤ xs.length ∧ (∀ i, p ≤ i → i < k → 48 ≤ xs.getD i 0 ∧ xs.getD i 0 ≤ 57) ∧ (k = xs.length ∨ (k < xs.length ∧ ¬ (48 ≤ xs.getD k 0 ∧ xs.getD k 0 ≤ 57)))
  | 0, p, hd, hp, _ => by omega
  | d + 1, p, hd, hp, h => by
    by_cases he : p + 1 = xs.length
    · exact ⟨p + 1, by omega, by omega, fun i h1 h2 => by obtain rfl : i = p := by omega
                                                          exact h, Or.inl he⟩
    · by_cases h2 : 48 ≤ xs.getD (p + 1) 0 ∧ xs.getD (p + 1) 0 ≤ 57
      · obtain ⟨k, a, b, c, e⟩ := dig_end xs d (p + 1) (by omega) (by omega) h2
        refine ⟨k, by omega, b, fun i h1 h3 => ?_, e⟩
        by_cases hi : i = p
        · rw [hi]; exact h
        · exact c i (by omega) h3
      · exact ⟨p + 1, by omega, by omega, fun i h1 h3 => by obtain rfl : i = p := by omega
                                                            exact h, Or.inr ⟨by omega, h2⟩⟩

/-- What 'Bytes' comes to where no string stands. -/
def BytesNo (b : Nat) (w : World) : Prop :=
  Calls Tryf.prog 14 #[.pointer (some ⟨b, 0, none⟩)] w fun e w' => ∃ x, e = .returned (.tuple #[.slice none 0 0, .iface 54 (.pointer (some x))]) ∧ Below b w w'

set_option maxHeartbeats 400000 in
theorem bytes_start (b : Nat) (w : World) (hbz : b < w.heap.size) (c16 : Calls Tryf.prog 16 #[.pointer (some ⟨b, 0, none⟩), .string ⟨#[97, 32, 115, 116, 114, 105, 110, 103]⟩] w fun e w' => ∃ x, e = .returned (.iface 54 (.pointer (some x))) ∧ Below w.heap.size w w') : BytesNo b w := by
  have C16 := hid c16
  clear c16
  go_enter Tryf.func14, Tryf.ntmps14
  go_wp2_with (go_at_call 16; refine (Hid.out C16).mono ?_; rintro e w' ⟨x, rfl, hb⟩)
  go_ret2
  exact ⟨x, rfl, hb.mono (by omega)⟩

set_option maxHeartbeats 400000 in
theorem bytes_num (b : Nat) (w : World)
    (c16 : Calls Tryf.prog 16 #[.pointer (some ⟨b, 0, none⟩), .string ⟨#[97, 32, 115, 116, 114, 105, 110, 103]⟩] w fun e w' => e = .returned .nilIface ∧ ∃ m, w' = w.drewN m)
    (c17 : ∀ m, Calls Tryf.prog 17 #[.pointer (some ⟨b, 0, none⟩), .int .u8 58, .bool false] (w.drewN m) fun e w' => ∃ x, e = .returned (.tuple #[.int .i64 0, .iface 54 (.pointer (some x))]) ∧ Below b (w.drewN m) w') : BytesNo b w := by
  have C16 := hid c16
  have C17 := hid c17
  clear c16 c17
  go_enter Tryf.func14, Tryf.ntmps14
  go_wp2_with (first | (go_at_call 16; refine (Hid.out C16).mono ?_; rintro e w' ⟨rfl, m, rfl⟩) | (go_at_call 17; refine (Hid.out C17 m).mono ?_; rintro e w' ⟨x, rfl, hb⟩))
  go_ret2
  exact ⟨x, rfl, (bdr b w m).trans hb⟩

theorem err_pastW (F : Interp) (b m m2 : Nat) (p v q : Int) (w : World) (hF : F.answers w.tape) (hp : w.cell? ⟨b, 1, none⟩ = some (.int .i64 p)) (hbz : b < w.heap.size) :
    Calls Tryf.prog 18 #[.pointer (some ⟨b, 0, none⟩), .string ⟨#[115, 116, 114, 105, 110, 103, 32, 111, 102, 32, 37, 100, 32, 98, 121, 116, 101, 115, 32, 114, 117, 110, 115, 32, 112, 97, 115, 116, 32, 116, 104, 101, 32, 101, 110, 100, 32, 111, 102, 32, 100, 97, 116, 97]⟩, .slice (some ⟨w.heap.size, 0, none⟩) 1 1]
      ((((w.drewN m).setCell ⟨b, 1, none⟩ (.int .i64 q)).drewN m2).alloc (.cells #[.iface 2 (.int .i64 v)] 20))
      fun e w' => ∃ x, e = .returned (.iface 54 (.pointer (some x))) ∧ Below b w w' := by
  have hW : Below b w ((((w.drewN m).setCell ⟨b, 1, none⟩ (.int .i64 q)).drewN m2).alloc (.cells #[.iface 2 (.int .i64 v)] 20)) :=
    (((bdr b w m).setCell (Nat.le_refl _) (.int .i64 q)).trans (bdr b _ m2)).alloc (by simp; omega) _
  have hcell : ((((w.drewN m).setCell ⟨b, 1, none⟩ (.int .i64 q)).drewN m2).alloc (.cells #[.iface 2 (.int .i64 v)] 20)).cell? ⟨w.heap.size, 0, none⟩ = some (.iface 2 (.int .i64 v)) := by
    have := World.cell?_alloc_new ((w.drewN m).setCell ⟨b, 1, none⟩ (.int .i64 q)) #[.iface 2 (.int .i64 v)] 20 0
    rw [show ((w.drewN m).setCell ⟨b, 1, none⟩ (.int .i64 q)).heap.size = w.heap.size by simp] at this
    exact this
  refine (show Calls _ _ _ _ _ from err_past F b q v w.heap.size _ (by exact hF) (by exact pos_cell w m _ _ _ _ hp hbz) hcell).mono ?_
  rintro e w' ⟨x, rfl, hb⟩
  exact ⟨x, rfl, hW.trans (hb.mono (by simp; omega))⟩

set_option maxHeartbeats 1000000 in
set_option maxRecDepth 100000 in
theorem bytes_past (F : Interp) (g b p k n cap : Nat) (v : Int) (w : World) (hF : F.answers w.tape) (_hbig : n ≤ 1099511627776) (hv0 : 0 ≤ v) (hv1 : v < 9223372036854775808)
    (hd : w.cell? ⟨b, 0, none⟩ = some (.slice (some ⟨g, 0, none⟩) n cap)) (hp : w.cell? ⟨b, 1, none⟩ = some (.int .i64 p)) (hbz : b < w.heap.size) (hkn : k < n) (hv : (n : Int) < v + (k + 1))
    (c16 : Calls Tryf.prog 16 #[.pointer (some ⟨b, 0, none⟩), .string ⟨#[97, 32, 115, 116, 114, 105, 110, 103]⟩] w fun e w' => e = .returned .nilIface ∧ ∃ m, w' = w.drewN m)
    (c17 : ∀ m, Calls Tryf.prog 17 #[.pointer (some ⟨b, 0, none⟩), .int .u8 58, .bool false] (w.drewN m)
      fun e w' => e = .returned (.tuple #[.int .i64 v, .nilIface]) ∧ ∃ m', w' = ((w.drewN m).setCell ⟨b, 1, none⟩ (.int .i64 (k + 1))).drewN m') : BytesNo b w := by
  have hd2 : (w.setCell ⟨b, 1, none⟩ (.int .i64 (k + 1))).cell? ⟨b, 0, none⟩ = some (.slice (some ⟨g, 0, none⟩) n cap) := by
    rw [World.cell?_setCell_other]; exact hd; simp
  have hp2 : (w.setCell ⟨b, 1, none⟩ (.int .i64 (k + 1))).cell? ⟨b, 1, none⟩ = some (.int .i64 (k + 1)) := World.cell?_setCell_same _ _ _ hp
  have hv' : (n : Int) - (k + 1) < v := by omega
  have C16 := hid c16
  have C17 := hid c17
  clear c16 c17 hv
  go_enter Tryf.func14, Tryf.ntmps14
  go_wp2_with (first | (go_at_call 16; refine (Hid.out C16).mono ?_; rintro e w' ⟨rfl, m, rfl⟩) | (go_at_call 17; refine (Hid.out C17 m).mono ?_; rintro e w' ⟨rfl, m2, rfl⟩))
  go_quiet (fail)
  go_wp2_with fail
  refine (err_pastW F b m (m2 + nq) p v (k + 1) w hF hp hbz).mono ?_
  rintro e w' ⟨x, rfl, hb⟩
  go_wp2
  go_ret2
  exact ⟨x, rfl, hb⟩

theorem bytes_bad (F : Interp) (g b p n cap : Nat) (xs : List Int) (w : World) (hF : F.answers w.tape) (hn : xs.length = n) (hbig : n ≤ 1099511627776) (hcap : n ≤ cap)
    (hd : w.cell? ⟨b, 0, none⟩ = some (.slice (some ⟨g, 0, none⟩) n cap)) (hp : w.cell? ⟨b, 1, none⟩ = some (.int .i64 p)) (hfz : w.frozen? ⟨b, 1, none⟩ = false)
    (hx : ∀ i, i < n → w.cell? ⟨g, i, none⟩ = some (.int .u8 (xs.getD i 0))) (hgb : g < b) (hbz : b < w.heap.size) (hpn : p ≤ n) (hno : ∀ k, ¬ Good xs p k) : BytesNo b w := by
  by_cases hpe : p = n
  · subst hpe
    exact bytes_start b w hbz (start_end F b p cap _ w hF hd hp)
  · have hpl : p < n := by omega
    by_cases hdp : 48 ≤ xs.getD p 0 ∧ xs.getD p 0 ≤ 57
    · have c16 := start_ok g b p n cap _ w hd hp hpl (hx p hpl) hdp.1 hdp.2
      obtain ⟨k, h1, h2, h3, h4⟩ := dig_end xs _ p rfl (by omega) hdp
      rcases h4 with h4 | ⟨h4, h5⟩
      · obtain rfl : k = n := by omega
        exact bytes_num b w c16 fun m => number_end F g b p k cap xs (w.drewN m) hF hn hbig hcap hd hp hfz hx hgb hbz h1 h3
      · by_cases hcol : xs.getD k 0 = 58
        · by_cases hz : xs.getD p 0 = 48 ∧ 1 < k - p
          · exact bytes_num b w c16 fun m => number_can F g b p k n cap xs (w.drewN m) hF hn hbig hcap hd hp hfz hx hgb hbz h1 (by omega) h3 hcol hz.1 hz.2
          · by_cases hv : satU (seg xs p k) < 9223372036854775808
            · by_cases hf : satU (seg xs p k) + (k + 1) ≤ n
              · exact absurd ⟨h1, h4, h3, hcol, hz, by omega⟩ (hno k)
              · exact bytes_past F g b p k n cap _ w hF hbig (satU_nn xs p k h2 h3) hv hd hp hbz (by omega) (by omega) c16
                  fun m => number_ok g b p k n cap xs (w.drewN m) hn hbig hcap hd hp hfz hx h1 (by omega) h3 hcol hz hv
            · exact bytes_num b w c16 fun m => number_ran F g b p k n cap xs (w.drewN m) hF hn hbig hcap hd hp hfz hx hgb hbz h1 (by omega) h3 hcol hz (by omega)
        · exact bytes_num b w c16 fun m => number_dec F g b p k n cap xs (w.drewN m) hF hn hbig hcap hd hp hfz hx hgb hbz h1 (by omega) h3 hcol h5
    · exact bytes_start b w hbz (start_no F g b p n cap _ w hF hd hp hbz hpl (hx p hpl) hdp)
end Go.Proofs.Qxb6612599aFmt
