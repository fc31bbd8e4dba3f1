import Derived.Test.Qxb6612599aFmtWf4
namespace Go.Proofs.Qxb6612599aFmt
open Go.RowKit Go.Extern.Stop Go.Stop Go.Extern

/-- A new decoder over V, in W. -/
def dec (V : Value) (W : World) : World := W.alloc (.cells #[V, .int .i64 0, .int .i64 0] 37)
theorem dec0 (V : Value) (W : World) : (dec V W).cell? ⟨W.heap.size, 0, none⟩ = some V := World.cell?_alloc_new W _ _ 0
theorem dec1 (V : Value) (W : World) : (dec V W).cell? ⟨W.heap.size, 1, none⟩ = some (.int .i64 (0 : Nat)) := World.cell?_alloc_new W _ _ 1
theorem dec_fz (V : Value) (W : World) : (dec V W).frozen? ⟨W.heap.size, 1, none⟩ = false :=
  (World.rowIs_alloc W #[V, .int .i64 0, .int .i64 0] 37 (fun i => (#[V, .int .i64 0, .int .i64 0][i]?).getD .nilIface) (fun i hi => by rw [Array.getElem?_eq_getElem hi]; rfl)).frozen 1
theorem dec_bel (V : Value) (W : World) : Below W.heap.size W (dec V W) := (Below.refl _ _).alloc (Nat.le_refl _) _
theorem dec_size (V : Value) (W : World) : (dec V W).heap.size = W.heap.size + 1 := by unfold dec; simp
theorem dec_cells (g n : Nat) (xs : List Int) (V : Value) (W : World) (hg : g < W.heap.size) (hx : ∀ i, i < n → W.cell? ⟨g, i, none⟩ = some (.int .u8 (xs.getD i 0))) :
    ∀ i, i < n → (dec V W).cell? ⟨g, i, none⟩ = some (.int .u8 (xs.getD i 0)) := fun i hi => by
  rw [(dec_bel V W).cell (p := ⟨g, i, none⟩) hg]; exact hx i hi

theorem dec_no (F : Interp) (g n cap : Nat) (xs : List Int) (W : World) (hF : F.answers W.tape) (hn : xs.length = n) (hbig : n ≤ 1099511627776) (hcap : n ≤ cap) (hg : g < W.heap.size)
    (hx : ∀ i, i < n → W.cell? ⟨g, i, none⟩ = some (.int .u8 (xs.getD i 0))) (hno : ∀ k, ¬ Good xs 0 k) : BytesNo W.heap.size (dec (.slice (some ⟨g, 0, none⟩) n cap) W) :=
  bytes_bad F g W.heap.size 0 n cap xs _ hF hn hbig hcap (dec0 _ W) (dec1 _ W) (dec_fz _ W) (dec_cells g n xs _ W hg hx) hg (by rw [dec_size]; omega) (Nat.zero_le _) hno
theorem dec_nil (F : Interp) (W : World) (hF : F.answers W.tape) : BytesNo W.heap.size (dec (.slice none 0 0) W) :=
  bytes_start W.heap.size _ (by rw [dec_size]; omega) (start_end F W.heap.size 0 0 none _ hF (dec0 _ W) (dec1 _ W))
theorem dec_yes (g n cap k v : Nat) (xs : List Int) (W : World) (hn : xs.length = n) (hbig : n ≤ 1099511627776) (hcap : n ≤ cap) (hg : g < W.heap.size)
    (hx : ∀ i, i < n → W.cell? ⟨g, i, none⟩ = some (.int .u8 (xs.getD i 0))) (G : Good xs 0 k) (hv : satU (seg xs 0 k) = v) : BytesYes g W.heap.size k v (dec (.slice (some ⟨g, 0, none⟩) n cap) W) :=
  bytes_ok g W.heap.size 0 k n cap xs _ hn hbig hcap (dec0 _ W) (dec1 _ W) (dec_fz _ W) (dec_cells g n xs _ W hg hx) G v hv

/-- isString over a new decoder. -/
theorem dis_no {V : Value} {W : World} (c : BytesNo W.heap.size (dec V W)) :
    Calls Tryf.prog 8 #[.pointer (some ⟨W.heap.size, 0, none⟩)] (W.alloc (.cells #[V, .int .i64 0, .int .i64 0] 37)) fun e w' => e = .returned (.bool false) ∧ Below W.heap.size W w' := by
  refine (is_no _ _ c).mono ?_
  rintro e w' ⟨rfl, hb⟩
  exact ⟨rfl, (dec_bel V W).trans hb⟩
theorem dis_yes {g k v : Nat} {V : Value} {W : World} (c : BytesYes g W.heap.size k v (dec V W)) :
    Calls Tryf.prog 8 #[.pointer (some ⟨W.heap.size, 0, none⟩)] (W.alloc (.cells #[V, .int .i64 0, .int .i64 0] 37)) fun e w' => e = .returned (.bool true) ∧ Below W.heap.size W w' := by
  refine (is_yes g _ k v _ c).mono ?_
  rintro e w' ⟨rfl, m, rfl⟩
  exact ⟨rfl, ((dec_bel V W).setCell (Nat.le_refl _) _).trans (bdr _ _ m)⟩
theorem dst_no {V : Value} {W : World} (c : BytesNo W.heap.size (dec V W)) :
    Calls Tryf.prog 10 #[.pointer (some ⟨W.heap.size, 0, none⟩)] (W.alloc (.cells #[V, .int .i64 0, .int .i64 0] 37)) fun e w' => ∃ x, e = .returned (.tuple #[.string ⟨#[]⟩, .iface 54 (.pointer (some x))]) ∧ Below W.heap.size W w' := by
  refine (str_no _ _ c).mono ?_
  rintro e w' ⟨x, rfl, hb⟩
  exact ⟨x, rfl, (dec_bel V W).trans hb⟩
theorem dst_yes (g n cap k v : Nat) (xs : List Int) (W : World) (hn : xs.length = n) (hbig : n ≤ 1099511627776) (hcap : n ≤ cap) (hg : g < W.heap.size)
    (hx : ∀ i, i < n → W.cell? ⟨g, i, none⟩ = some (.int .u8 (xs.getD i 0))) (hwf : ∀ i, 0 ≤ xs.getD i 0 ∧ xs.getD i 0 ≤ 255) (G : Good xs 0 k) (hv : satU (seg xs 0 k) = v) :
    Calls Tryf.prog 10 #[.pointer (some ⟨W.heap.size, 0, none⟩)] (W.alloc (.cells #[.slice (some ⟨g, 0, none⟩) n cap, .int .i64 0, .int .i64 0] 37))
      fun e w' => ∃ S : ByteArray, e = .returned (.tuple #[.string S, .nilIface]) ∧ S.size = v ∧ (∀ i (h : i < S.size), (S[i].toNat : Int) = xs.getD (k + 1 + i) 0) ∧ Below W.heap.size W w' := by
  have hf := G.fit
  have hkn := G.kn
  refine (str_yes g _ k v n xs _ hn (dec_cells g n xs _ W hg hx) hwf hg (by omega) (dec_yes g n cap k v xs W hn hbig hcap hg hx G hv)).mono ?_
  rintro e w' ⟨rfl, m, rfl⟩
  have hl : (bys (seg xs (k + 1) (k + 1 + v))).length = v := by unfold bys; rw [List.length_map, seg_len xs (k + 1) (k + 1 + v) n hn (by omega)]; omega
  refine ⟨_, rfl, ?_, ?_, ((dec_bel _ W).setCell (Nat.le_refl _) _).trans (bdr _ _ m)⟩
  · rw [Lib.size_eq]; simpa using hl
  · intro i h
    have h2 : i < (bys (seg xs (k + 1) (k + 1 + v))).length := by rw [Lib.size_eq] at h; simpa using h
    exact bys_get xs (k + 1) v n hn (by omega) hwf i h2

set_option maxHeartbeats 1000000 in
theorem top_big (a : Option Addr) (n cap : Nat) (w : World) (hm : n ≤ maxLen) (h : 1048576 < n) :
    Calls Tryf.prog 3 #[.slice a n cap] w fun e w' => e = .returned (.bool true) ∧ Below w.heap.size w w' := by
  go_enter Tryf.func3, Tryf.ntmps3
  go_wp2_with (go_at_call 5; refine (bytes5_no _ _ _ _ hm h).mono ?_; rintro e w' ⟨rfl, rfl⟩)
  go_ret
  exact ⟨rfl, Below.refl _ _⟩

set_option maxHeartbeats 1000000 in
theorem top_nil (F : Interp) (w : World) (hF : F.answers w.tape) :
    Calls Tryf.prog 3 #[.slice none 0 0] w fun e w' => e = .returned (.bool true) ∧ Below w.heap.size w w' := by
  go_enter Tryf.func3, Tryf.ntmps3
  go_wp2_with (first | (go_at_call 5; refine (bytes5_yes _ _ _ _ (by omega)).mono ?_; rintro e w' ⟨rfl, rfl⟩) | (go_at_call 6; refine (clone_nil _).mono ?_; rintro e w' ⟨rfl, rfl⟩) | (go_at_call 7; refine (wf_none _ _ _).mono ?_; rintro e w' ⟨rfl, rfl⟩) | (go_at_call 9; refine (new9 _ _ _ _ _ rfl).mono ?_; rintro e w' ⟨rfl, rfl⟩))
  refine (dis_no (dec_nil F _ (by exact hF))).mono ?_
  rintro e w' ⟨rfl, hb⟩
  go_wp2_with (first | (go_at_call 9; refine (new9 _ _ _ _ _ rfl).mono ?_; rintro e w' ⟨rfl, rfl⟩))
  refine (dst_no (dec_nil F _ (by rw [hb.tape]; exact hF))).mono ?_
  rintro e w' ⟨x, rfl, hb2⟩
  go_wp2
  go_ret
  exact ⟨rfl, hb.trans (hb2.mono hb.size)⟩

theorem swapW {P : Program} {f : FuncId} {args : Array Value} {w : World} {r : Ending} (h : Calls P f args w fun e w' => e = r ∧ w' = w) : Calls P f args w fun e w' => e = r ∧ w = w' :=
  h.mono fun _ _ ⟨h1, h2⟩ => ⟨h1, h2.symm⟩

set_option maxHeartbeats 1000000 in
theorem top_no (F : Interp) (g o n cap : Nat) (xs : List Int) (w : World) (hF : F.answers w.tape) (hn : xs.length = n) (hbig : n ≤ 1048576) (hgz : n ≠ 0 → g < w.heap.size)
    (hx : ∀ i, i < n → w.cell? ⟨g, o + i, none⟩ = some (.int .u8 (xs.getD i 0))) (hno : ∀ k, ¬ Good xs 0 k) :
    Calls Tryf.prog 3 #[.slice (some ⟨g, o, none⟩) n cap] w fun e w' => e = .returned (.bool true) ∧ Below w.heap.size w w' := by
  have HX := hid hx
  have HN := hid hn
  have HG := hid hno
  clear hx hn hno
  go_enter Tryf.func3, Tryf.ntmps3
  go_wp2_with (first | (go_at_call 5; refine (swapW (bytes5_yes _ _ _ _ (by omega))).mono ?_; rintro e w' ⟨rfl, rfl⟩))
  refine (clone_some g o n cap xs w (by omega) hgz (Hid.out HX)).mono ?_
  rintro e w1 ⟨rfl, hb1, hz1, hc1⟩
  have HC := hid hc1
  have HZ := hid hz1
  clear hc1 hz1
  go_wp2_with fail
  refine (swapW (wf_no w.heap.size n n xs w1 (Hid.out HN) (by omega) (Hid.out HC) (Hid.out HG))).mono ?_
  rintro e w' ⟨rfl, rfl⟩
  go_wp2_with (first | (go_at_call 9; refine (new9 _ _ _ _ _ rfl).mono ?_; rintro e w' ⟨rfl, rfl⟩))
  refine (dis_no (dec_no F w.heap.size n n xs _ (by rw [hb1.tape]; exact hF) (Hid.out HN) (by omega) (Nat.le_refl _) (by rw [Hid.out HZ]; omega) (Hid.out HC) (Hid.out HG))).mono ?_
  rintro e w2 ⟨rfl, hb2⟩
  go_wp2_with (first | (go_at_call 9; refine (new9 _ _ _ _ _ rfl).mono ?_; rintro e w' ⟨rfl, rfl⟩))
  refine (dst_no (dec_no F w.heap.size n n xs _ (by rw [hb2.tape, hb1.tape]; exact hF) (Hid.out HN) (by omega) (Nat.le_refl _) (by have := hb2.size; rw [Hid.out HZ] at this; omega) (fun i hi => by rw [hb2.cell (p := ⟨w.heap.size, i, none⟩) (by rw [Hid.out HZ]; simp)]; exact Hid.out HC i hi) (Hid.out HG))).mono ?_
  rintro e w3 ⟨x, rfl, hb3⟩
  go_wp2
  go_ret
  exact ⟨rfl, (hb1.trans (hb2.mono hb1.size)).trans (hb3.mono (Nat.le_trans hb1.size hb2.size))⟩

set_option maxHeartbeats 1000000 in
theorem top_yes (g o n cap k v : Nat) (xs : List Int) (w : World) (hn : xs.length = n) (hbig : n ≤ 1048576) (hgz : n ≠ 0 → g < w.heap.size)
    (hx : ∀ i, i < n → w.cell? ⟨g, o + i, none⟩ = some (.int .u8 (xs.getD i 0))) (hwf : ∀ i, 0 ≤ xs.getD i 0 ∧ xs.getD i 0 ≤ 255) (G : Good xs 0 k) (hv : satU (seg xs 0 k) = v) :
    Calls Tryf.prog 3 #[.slice (some ⟨g, o, none⟩) n cap] w fun e w' => e = .returned (.bool true) ∧ Below w.heap.size w w' := by
  have hfit : v + (k + 1) ≤ n := by have := G.fit; omega
  have HX := hid hx
  have HN := hid hn
  have HG := hid G
  have HW := hid hwf
  have HV := hid hv
  clear hx hn G hwf hv
  go_enter Tryf.func3, Tryf.ntmps3
  go_wp2_with (first | (go_at_call 5; refine (swapW (bytes5_yes _ _ _ _ (by omega))).mono ?_; rintro e w' ⟨rfl, rfl⟩))
  refine (clone_some g o n cap xs w (by omega) hgz (Hid.out HX)).mono ?_
  rintro e w1 ⟨rfl, hb1, hz1, hc1⟩
  have HC := hid hc1
  have HZ := hid hz1
  clear hc1 hz1
  go_wp2_with fail
  refine (swapW (wf_good w.heap.size k n n v xs w1 (Hid.out HN) (by omega) (Hid.out HC) (Hid.out HG) (Hid.out HV))).mono ?_
  rintro e w' ⟨rfl, rfl⟩
  go_wp2_with (first | (go_at_call 9; refine (new9 _ _ _ _ _ rfl).mono ?_; rintro e w' ⟨rfl, rfl⟩))
  refine (dis_yes (dec_yes w.heap.size n n k v xs _ (Hid.out HN) (by omega) (Nat.le_refl _) (by rw [Hid.out HZ]; omega) (Hid.out HC) (Hid.out HG) (Hid.out HV))).mono ?_
  rintro e w2 ⟨rfl, hb2⟩
  go_wp2_with (first | (go_at_call 9; refine (new9 _ _ _ _ _ rfl).mono ?_; rintro e w' ⟨rfl, rfl⟩))
  have hc2 : ∀ i, i < n → w2.cell? ⟨w.heap.size, i, none⟩ = some (.int .u8 (xs.getD i 0)) := fun i hi => by rw [hb2.cell (p := ⟨w.heap.size, i, none⟩) (by rw [Hid.out HZ]; simp)]; exact Hid.out HC i hi
  have hz2 : w.heap.size < w2.heap.size := by have := hb2.size; rw [Hid.out HZ] at this; omega
  refine (dst_yes w.heap.size n n k v xs _ (Hid.out HN) (by omega) (Nat.le_refl _) hz2 hc2 (Hid.out HW) (Hid.out HG) (Hid.out HV)).mono ?_
  rintro e w3 ⟨S, rfl, hS, hSg, hb3⟩
  have hc3 : ∀ i, i < n → w3.cell? ⟨w.heap.size, i, none⟩ = some (.int .u8 (xs.getD i 0)) := fun i hi => by rw [hb3.cell (p := ⟨w.heap.size, i, none⟩) hz2]; exact hc2 i hi
  have HC3 := hid hc3
  have HSg := hid hSg
  have hB : Below w.heap.size w w3 := (hb1.trans (hb2.mono hb1.size)).trans (hb3.mono (Nat.le_trans hb1.size hb2.size))
  subst hS
  clear hc3 hc2 hSg hb1 hb2 hb3 HC HX hz2
  go_wp2
  go_loopw [9] (fun i wr => ∃ j m : Nat, j ≤ S.size ∧ i = .int .i64 j ∧ wr = w3.drewN m) (fun i _ => S.size - (intOf i).toNat)
  case atStart => exact ⟨0, 0, Nat.zero_le _, rfl, rfl⟩
  case round =>
    obtain ⟨j, m, hj, rfl, rfl⟩ := hrel
    by_cases hlt : j < S.size
    · have hcell : w3.cell? ⟨w.heap.size, k + 1 + j, none⟩ = some (.int .u8 (S[j].toNat : Int)) := by rw [Hid.out HC3 (k + 1 + j) (by omega), ← Hid.out HSg j hlt]
      go_wp2
      go_quiet (fail)
      go_wp2
      go_roundw
      case rel => exact ⟨j + 1, _, by omega, by go_num, rfl⟩
      case measure => simp [intOf]; omega
    · go_wp2
      go_ret
      exact ⟨rfl, hB.trans (bdr _ _ m)⟩
end Go.Proofs.Qxb6612599aFmt
