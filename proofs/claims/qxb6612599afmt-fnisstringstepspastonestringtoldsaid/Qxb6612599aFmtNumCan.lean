import Derived.Test.Qxb6612599aFmtNum
namespace Go.Proofs.Qxb6612599aFmt
open Go.RowKit Go.Extern.Stop Go.Stop Go.Extern

theorem pos_cell (w : World) (nq : Nat) (a : Addr) (v u : Value) (o : Obj) (h : w.cell? a = some u) (hb : a.block < w.heap.size) : (((w.drewN nq).setCell a v).alloc o).cell? a = some v := by
  rw [World.cell?_alloc_lt]
  · exact World.cell?_setCell_same _ _ _ h
  · simpa using hb
theorem blw (w : World) (nq b : Nat) (v : Value) (o : Obj) (hbz : b < w.heap.size) : Below b w (((w.drewN nq).setCell ⟨b, 1, none⟩ v).alloc o) :=
  ((bdr b w nq).setCell (Nat.le_refl _) v).alloc (by simp; omega) o
theorem seg_cells (g b p k n : Nat) (xs : List Int) (w W : World) (hkn : k ≤ n) (hx : ∀ i, i < n → w.cell? ⟨g, i, none⟩ = some (.int .u8 (xs.getD i 0))) (hgb : g < b) (hW : Below b w W) :
    ∀ j v, ((seg xs p k).map (Value.int .u8))[j]? = some v → W.cell? ((⟨g, p, none⟩ : Addr).add j) = some v := by
  intro j v hj
  rw [List.getElem?_map] at hj
  obtain ⟨z, hz, rfl⟩ := Option.map_eq_some_iff.1 hj
  have hjl : j < k - p := by
    have := (List.getElem?_eq_some_iff.1 hz).1
    unfold seg at this; rw [List.length_take] at this; omega
  have e : (⟨g, p, none⟩ : Addr).add j = ⟨g, p + j, none⟩ := by unfold Addr.add; split <;> simp_all
  rw [e, hW.cell (p := ⟨g, p + j, none⟩) hgb, hx (p + j) (by omega)]
  unfold seg at hz
  rw [List.getElem?_take_of_lt hjl, List.getElem?_drop] at hz
  rw [List.getD_eq_getElem?_getD, hz]; rfl
theorem seg_len (xs : List Int) (p k n : Nat) (hn : xs.length = n) (hkn : k ≤ n) : (seg xs p k).length = k - p := by
  unfold seg; rw [List.length_take, List.length_drop]; omega

theorem err_numW (F : Interp) (f : ByteArray) (hf : FmtStop.printed? f 1 = some [(0, 113, false)]) (g b p k n cap nq : Nat) (xs : List Int) (w : World) (hF : F.answers w.tape) (hn : xs.length = n)
    (hp : w.cell? ⟨b, 1, none⟩ = some (.int .i64 p)) (hx : ∀ i, i < n → w.cell? ⟨g, i, none⟩ = some (.int .u8 (xs.getD i 0))) (hgb : g < b) (hbz : b < w.heap.size) (hkn : k ≤ n) :
    Calls Tryf.prog 18 #[.pointer (some ⟨b, 0, none⟩), .string f, .slice (some ⟨w.heap.size, 0, none⟩) 1 1]
      (((w.drewN nq).setCell ⟨b, 1, none⟩ (.int .i64 p)).alloc (.cells #[.iface 22 (.slice (some ⟨g, p, none⟩) (k - p) cap)] 20))
      fun e w' => ∃ x, e = .returned (.iface 54 (.pointer (some x))) ∧ Below b w w' := by
  have hW := blw w nq b (.int .i64 p) (.cells #[.iface 22 (.slice (some ⟨g, p, none⟩) (k - p) cap)] 20) hbz
  have hcell : (((w.drewN nq).setCell ⟨b, 1, none⟩ (.int .i64 p)).alloc (.cells #[.iface 22 (.slice (some ⟨g, p, none⟩) (k - p) cap)] 20)).cell? ⟨w.heap.size, 0, none⟩ = some (.iface 22 (.slice (some ⟨g, p, none⟩) (seg xs p k).length cap)) := by
    have := World.cell?_alloc_new ((w.drewN nq).setCell ⟨b, 1, none⟩ (.int .i64 p)) #[.iface 22 (.slice (some ⟨g, p, none⟩) (k - p) cap)] 20 0
    rw [show ((w.drewN nq).setCell ⟨b, 1, none⟩ (.int .i64 p)).heap.size = w.heap.size by simp] at this
    rw [this, seg_len xs p k n hn hkn]; rfl
  refine (show Calls _ _ _ _ _ from err_num F b p f hf ⟨g, p, none⟩ cap (seg xs p k) w.heap.size _ (by exact hF) (pos_cell w nq _ _ _ _ hp hbz) (seg_cells g b p k n xs w _ hkn hx hgb hW) hcell).mono ?_
  rintro e w' ⟨x, rfl, hb⟩
  exact ⟨x, rfl, hW.trans (hb.mono (by simp; omega))⟩

set_option maxHeartbeats 1000000 in
set_option maxRecDepth 100000 in
theorem number_can (F : Interp) (g b p k n cap : Nat) (xs : List Int) (w : World) (hF : F.answers w.tape) (hn : xs.length = n) (hbig : n ≤ 1099511627776) (hcap : n ≤ cap)
    (hd : w.cell? ⟨b, 0, none⟩ = some (.slice (some ⟨g, 0, none⟩) n cap)) (hp : w.cell? ⟨b, 1, none⟩ = some (.int .i64 p)) (hfz : w.frozen? ⟨b, 1, none⟩ = false)
    (hx : ∀ i, i < n → w.cell? ⟨g, i, none⟩ = some (.int .u8 (xs.getD i 0))) (hgb : g < b) (hbz : b < w.heap.size)
    (hpk : p < k) (hkn : k < n) (hdig : ∀ i, p ≤ i → i < k → 48 ≤ xs.getD i 0 ∧ xs.getD i 0 ≤ 57) (hcol : xs.getD k 0 = 58) (hz : xs.getD p 0 = 48) (hz1 : 1 < k - p) :
    Calls Tryf.prog 17 #[.pointer (some ⟨b, 0, none⟩), .int .u8 58, .bool false] w
      fun e w' => ∃ x, e = .returned (.tuple #[.int .i64 0, .iface 54 (.pointer (some x))]) ∧ Below b w w' := by
  have HX : Hid (∀ i, i < n → w.cell? ⟨g, i, none⟩ = some (.int .u8 (xs.getD i 0))) := hx
  have HD : Hid (∀ i, p ≤ i → i < k → 48 ≤ xs.getD i 0 ∧ xs.getD i 0 ≤ 57) := hdig
  have HC : Hid (xs.getD k 0 = 58) := hcol
  have HZ : Hid (xs.getD p 0 = 48) := hz
  have HN : Hid (xs.length = n) := hn
  clear hx hdig hn hcol hz
  go_enter Tryf.func17, Tryf.ntmps17
  go_wp2
  go_quiet (fail)
  go_wp2
  go_loop [9, 11] (fun i v => ∃ j : Nat, p ≤ j ∧ j ≤ k ∧ i = .int .i64 j ∧ v = .int .u64 (satU (seg xs p j))) (fun i _ => k - (intOf i).toNat)
  case atStart => exact ⟨p, Nat.le_refl _, by omega, rfl, by simp [seg, satU]⟩
  case round =>
    obtain ⟨j, hj0, hj1, rfl, rfl⟩ := hrel
    by_cases hlt : j < k
    · have hb := satU_bd (seg xs p j) (seg_mem xs p j n HN.out (by omega) (fun i h1 h2 => HD.out i h1 (by omega)))
      have hs : Hid (satU (seg xs p (j + 1)) = if satU (seg xs p j) ≤ 922337203685477580 then satU (seg xs p j) * 10 + (xs.getD j 0 - 48) else 18446744073709551615) := by rw [seg_snoc xs p j hj0 (by rw [HN.out]; omega)]; exact satU_snoc _ _
      have hcj := HX.out j (by omega)
      have hdj := HD.out j hj0 hlt
      generalize satU (seg xs p j) = v at hb hs ⊢
      generalize xs.getD j 0 = c at hcj hdj hs
      obtain ⟨hc0, hc1⟩ := hdj
      obtain ⟨hv0, hv1⟩ := hb
      by_cases hvv : v ≤ 922337203685477580
      · go_wp2
        go_round
        case rel => exact ⟨j + 1, by omega, by omega, by go_num, valInt (by rw [hs.out, if_pos hvv])⟩
        case measure => simp [intOf]; omega
      · go_wp2
        go_round
        case rel => exact ⟨j + 1, by omega, by omega, by go_num, valInt (by rw [hs.out, if_neg hvv])⟩
        case measure => simp [intOf]; omega
    · obtain rfl : j = k := by omega
      have hb := satU_bd (seg xs p j) (seg_mem xs p j n HN.out (by omega) HD.out)
      have hcj : w.cell? ⟨g, j, none⟩ = some (.int .u8 58) := by rw [HX.out j hkn, HC.out]
      have hcp : w.cell? ⟨g, p, none⟩ = some (.int .u8 48) := by rw [HX.out p (by omega), HZ.out]
      generalize satU (seg xs p j) = v at hb ⊢
      obtain ⟨hv0, hv1⟩ := hb
      go_wp2_with fail
      refine (err_numW F ⟨#[110, 117, 109, 98, 101, 114, 32, 37, 46, 50, 48, 113, 32, 105, 115, 32, 110, 111, 116, 32, 99, 97, 110, 111, 110, 105, 99, 97, 108]⟩ fmtCan g b p j n (cap - p) nq xs w hF HN.out hp HX.out hgb hbz (by omega)).mono ?_
      rintro e w' ⟨x, rfl, hb⟩
      go_wp2
      go_ret2
      exact ⟨x, rfl, hb⟩

end Go.Proofs.Qxb6612599aFmt
