import Derived.Test.Qxb6612599aFmtText
namespace Go.Proofs.Qxb6612599aFmt
open Go.RowKit Go.Extern.Stop Go.Stop Go.Extern

set_option maxHeartbeats 1000000 in
theorem steps_big (a b : Option Addr) (n c n' c' : Nat) (w : World) (hm : n ≤ maxLen) (hm' : n' ≤ maxLen) (h : 1048576 < n + n') :
    Calls Tryf.prog 4 #[.slice a n c, .slice b n' c'] w fun e w' => e = .returned (.bool true) ∧ Below w.heap.size w w' := by
  go_enter Tryf.func4, Tryf.ntmps4
  go_wp2_with (go_at_call 11; refine (bytes11_no _ _ _ _ _ _ _ hm hm' h).mono ?_; rintro e w' ⟨rfl, rfl⟩)
  go_ret
  exact ⟨rfl, Below.refl _ _⟩

set_option maxHeartbeats 1000000 in
theorem steps_half (a b : Option Addr) (n c n' c' : Nat) (w : World) (h : n + n' ≤ 1048576) (h2 : 524288 < n ∨ 524288 < n') :
    Calls Tryf.prog 4 #[.slice a n c, .slice b n' c'] w fun e w' => e = .returned (.bool true) ∧ Below w.heap.size w w' := by
  by_cases h3 : 524288 < n
  · go_enter Tryf.func4, Tryf.ntmps4
    go_wp2_with (go_at_call 11; refine (bytes11_yes _ _ _ _ _ _ _ h).mono ?_; rintro e w' ⟨rfl, rfl⟩)
    go_ret
    exact ⟨rfl, Below.refl _ _⟩
  · have h4 : 524288 < n' := by omega
    clear h2
    go_enter Tryf.func4, Tryf.ntmps4
    go_wp2_with (go_at_call 11; refine (bytes11_yes _ _ _ _ _ _ _ h).mono ?_; rintro e w' ⟨rfl, rfl⟩)
    go_ret
    exact ⟨rfl, Below.refl _ _⟩

set_option maxHeartbeats 1000000 in
theorem steps_some (F : Interp) (ao : Option Addr) (bg bo na ca cb nb : Nat) (A B : List Int) (w : World) (hF : F.answers w.tape) (hna : na ≤ 524288) (hnb : nb ≤ 524288)
    (hA : Arg ao na A w.heap.size w) (hB : Arg (some ⟨bg, bo, none⟩) nb B w.heap.size w) (hwf : ∀ z, z ∈ A ∨ z ∈ B → 0 ≤ z ∧ z ≤ 255) (_hb0 : 0 < nb) :
    Calls Tryf.prog 4 #[.slice ao na ca, .slice (some ⟨bg, bo, none⟩) nb cb] w fun e w' => e = .returned (.bool true) ∧ Below w.heap.size w w' := by
  obtain ⟨T, hT⟩ : ∃ T : List Int, Hid (T = [] ++ decS na ++ [58] ++ A ++ decS nb ++ [58] ++ B) := ⟨_, hid rfl⟩
  have hla := decS_ok na (by omega)
  have hlb := decS_ok nb (by omega)
  have hlA := hA.1
  have hlB := hB.1
  have la := decS_len na
  have lb := decS_len nb
  have G1 : Good T 0 (decS na).length ∧ satU (seg T 0 (decS na).length) = na := by
    have := good_at [] (A ++ decS nb ++ [58] ++ B) na (by omega) (by simp; omega)
    rw [show [] ++ decS na ++ [58] ++ (A ++ decS nb ++ [58] ++ B) = T by rw [hT.out]; simp] at this
    simpa using this
  have G2 : Good T ((decS na).length + 1 + na) ((decS na).length + 1 + na + (decS nb).length) ∧ satU (seg T ((decS na).length + 1 + na) ((decS na).length + 1 + na + (decS nb).length)) = nb := by
    have := good_at ([] ++ decS na ++ [58] ++ A) B nb (by omega) (by omega)
    rw [← hT.out, show ([] ++ decS na ++ [58] ++ A : List Int).length = (decS na).length + 1 + na by simp [hlA]; omega] at this
    exact this
  obtain ⟨k1, hk1⟩ : ∃ k1, Hid ((decS na).length = k1) := ⟨_, rfl⟩
  obtain ⟨kb, hkb⟩ : ∃ kb, Hid ((decS nb).length = kb) := ⟨_, rfl⟩
  rw [hk1.out] at G1 G2 la
  rw [hkb.out] at G2 lb
  have HF := hid hF
  have HA := hid hA
  have HB := hid hB
  have HW := hid hwf
  have HG1 := hid G1
  have HG2 := hid G2
  have hTl : T.length = k1 + 1 + na + kb + 1 + nb := by rw [hT.out]; simp [hk1.out, hkb.out, hlA, hlB]; omega
  have HTl := hid hTl
  have hTw : ∀ i, 0 ≤ T.getD i 0 ∧ T.getD i 0 ≤ 255 := by
    intro i
    by_cases hi : i < T.length
    · rw [List.getD_eq_getElem?_getD, List.getElem?_eq_getElem hi]
      have hmem := List.getElem_mem hi
      have hm2 : ∀ z ∈ T, 0 ≤ z ∧ z ≤ 255 := by
        intro z hz
        rw [hT.out] at hz
        simp only [List.nil_append, List.mem_append, List.mem_singleton] at hz
        rcases hz with ((((hz | hz) | hz) | hz) | hz) | hz
        · have := hla.2.1 z hz; omega
        · omega
        · exact hwf z (Or.inl hz)
        · have := hlb.2.1 z hz; omega
        · omega
        · exact hwf z (Or.inr hz)
      exact hm2 _ hmem
    · rw [List.getD_eq_getElem?_getD, List.getElem?_eq_none (by omega)]; simp
  have HTw := hid hTw
  have hTB : ∀ i, i < nb → T.getD (k1 + 1 + na + kb + 1 + i) 0 = B.getD i 0 := by
    intro i hi
    have := getD_left ([] ++ decS na ++ [58] ++ A ++ decS nb ++ [58]) B [] i (by omega)
    rw [List.append_nil, ← hT.out, show ([] ++ decS na ++ [58] ++ A ++ decS nb ++ [58] : List Int).length = k1 + 1 + na + kb + 1 by simp [hk1.out, hkb.out, hlA]; omega] at this
    exact this
  have HTB := hid hTB
  clear hTB hTw hTl G1 G2 hwf hA hB hF hla hlb hlA hlB
  go_enter Tryf.func4, Tryf.ntmps4
  go_wp2_with (go_at_call 11; refine (swapW (bytes11_yes _ _ _ _ _ _ _ (by omega))).mono ?_; rintro e w' ⟨rfl, rfl⟩)
  refine (frame_any w.heap.size 0 na ca ao (.slice none 0 0) [] A w (World.ownsRow_nil _ _ _ _) (by omega) (by omega) (Nat.le_refl _) (Hid.out HA)).mono ?_
  rintro e w1 ⟨V1, rfl, hown1, hb1⟩
  have HO1 := hid hown1
  clear hown1
  go_wp2_with fail
  refine (frame_any w.heap.size _ nb cb (some ⟨bg, bo, none⟩) V1 _ B w1 (Hid.out HO1) (by rw [hk1.out]; omega) (by omega) hb1.size (Arg.later (Hid.out HB) hb1)).mono ?_
  rintro e w2 ⟨V2, rfl, hown2, hb2⟩
  rw [← hT.out, hk1.out, hkb.out] at hown2
  obtain ⟨hlen, g, cap, hV, hbg, hgz, hcap, hcells⟩ := row_form hown2 (by omega)
  obtain ⟨n, hn⟩ : ∃ n, Hid (0 + k1 + 1 + na + kb + 1 + nb = n) := ⟨_, rfl⟩
  rw [hn.out] at hlen hV hcap hcells
  have hbig : n ≤ 1099511627776 := by have := hn.out; omega
  have HC := hid hcells
  have HL := hid hlen
  clear hown2 hcells hlen HO1
  rw [hV]
  go_wp2_with (go_at_call 9; refine (new9 _ _ _ _ _ rfl).mono ?_; rintro e w' ⟨rfl, rfl⟩)
  have D0 := hid (DecAt.made (g := g) (n := n) (cap := cap) (xs := T) (W := w2) hgz (Hid.out HC))
  refine (is_yes g _ k1 na _ ((Hid.out D0).yes (Hid.out HL) hbig hcap (Hid.out HG1).1 (Hid.out HG1).2)).mono ?_
  rintro e w4 ⟨rfl, m4, hw4⟩
  have D4 : Hid (DecAt g w2.heap.size n cap (k1 + 1 + na) T w4) := by rw [hw4]; exact (Hid.out D0).move _ m4 _ (by omega)
  have hb4 : Below w.heap.size w w4 := by
    rw [hw4]
    exact ((((hb1.trans hb2).alloc (Nat.le_trans hb1.size hb2.size) _).setCell (Nat.le_trans hb1.size hb2.size) _).trans (bdr _ _ m4))
  clear hw4
  go_wp2_with fail
  refine (str_yes g _ (k1 + 1 + na + kb) nb n T w4 (Hid.out HL) (Hid.out D4).hx (Hid.out HTw) (Hid.out D4).hgb (by have := hn.out; omega) ((Hid.out D4).yes (Hid.out HL) hbig hcap (Hid.out HG2).1 (Hid.out HG2).2)).mono ?_
  rintro e w5 ⟨rfl, m5, hw5⟩
  have D5 : Hid (DecAt g w2.heap.size n cap n T w5) := by rw [hw5]; exact (Hid.out D4).move _ m5 _ (by have := hn.out; omega)
  have hb5 : Below w.heap.size w w5 := by
    rw [hw5]
    exact ((hb4.setCell (Nat.le_trans hb1.size hb2.size) _).trans (bdr _ _ m5))
  clear hw5 hb4 D4 D0
  obtain ⟨S, hS⟩ : ∃ S : ByteArray, Hid (S = ⟨(bys (seg T (k1 + 1 + na + kb + 1) (k1 + 1 + na + kb + 1 + nb))).toArray⟩) := ⟨_, rfl⟩
  rw [← hS.out]
  have hl : (bys (seg T (k1 + 1 + na + kb + 1) (k1 + 1 + na + kb + 1 + nb))).length = nb := by unfold bys; rw [List.length_map, seg_len T _ _ n (Hid.out HL) (by have := hn.out; omega)]; omega
  have hSz : S.size = nb := by rw [hS.out, Lib.size_eq]; simpa using hl
  have hSg : ∀ i (h : i < S.size), (S[i].toNat : Int) = B.getD i 0 := by
    intro i h
    have h2 : i < (bys (seg T (k1 + 1 + na + kb + 1) (k1 + 1 + na + kb + 1 + nb))).length := by omega
    have h3 := bys_get T (k1 + 1 + na + kb + 1) nb n (Hid.out HL) (by have := hn.out; omega) (Hid.out HTw) i h2
    rw [Hid.out HTB i (by omega)] at h3
    rw [← h3]
    have hS2 := hS.out
    subst hS2
    rfl
  have HSg := hid hSg
  clear hSg hl hS
  go_wp2_with fail
  refine (is_no _ _ (DecAt.over F (by rw [hb5.tape]; exact Hid.out HF) (Hid.out D5))).mono ?_
  rintro e w6 ⟨rfl, hb6⟩
  have hb : Below w.heap.size w w6 := hb5.trans (hb6.mono (Nat.le_trans hb1.size hb2.size))
  have HBx := hid (Arg.later (Hid.out HB) hb)
  clear hb5 hb6 hb1 hb2 D5 HB HA HG1 HG2 HTw HTB HTl HC HL HW
  subst hSz
  go_wp2
  go_loopw [11] (fun i wr => ∃ j m : Nat, j ≤ S.size ∧ i = .int .i64 j ∧ wr = w6.drewN m) (fun i _ => S.size - (intOf i).toNat)
  case atStart => exact ⟨0, 0, Nat.zero_le _, rfl, rfl⟩
  case round =>
    obtain ⟨j, m, hj, rfl, rfl⟩ := hrel
    by_cases hlt : j < S.size
    · obtain ⟨g', o', he, hg', hx'⟩ := (Hid.out HBx).2.resolve_left (by omega)
      simp only [Option.some.injEq, Addr.mk.injEq, and_true] at he
      obtain ⟨rfl, rfl⟩ := he
      have hcell : w6.cell? ⟨bg, bo + j, none⟩ = some (.int .u8 (S[j].toNat : Int)) := by rw [hx' j hlt, ← Hid.out HSg j hlt]
      clear hx'
      go_wp2
      go_quiet (fail)
      go_wp2
      go_roundw
      case rel => exact ⟨j + 1, _, by omega, by go_num, rfl⟩
      case measure => simp [intOf]; omega
    · go_wp2
      go_ret
      exact ⟨rfl, hb.trans (bdr _ _ m)⟩

set_option maxHeartbeats 1000000 in
theorem steps_none (F : Interp) (ao : Option Addr) (bo : Option Addr) (na ca cb nb : Nat) (A B : List Int) (w : World) (hF : F.answers w.tape) (hna : na ≤ 524288) (hnb : nb ≤ 524288)
    (hA : Arg ao na A w.heap.size w) (hB : Arg bo nb B w.heap.size w) (hwf : ∀ z, z ∈ A ∨ z ∈ B → 0 ≤ z ∧ z ≤ 255) (hb0 : Hid (nb = 0)) :
    Calls Tryf.prog 4 #[.slice ao na ca, .slice bo nb cb] w fun e w' => e = .returned (.bool true) ∧ Below w.heap.size w w' := by
  obtain ⟨T, hT⟩ : ∃ T : List Int, Hid (T = [] ++ decS na ++ [58] ++ A ++ decS nb ++ [58] ++ B) := ⟨_, hid rfl⟩
  have hla := decS_ok na (by omega)
  have hlb := decS_ok nb (by omega)
  have hlA := hA.1
  have hlB := hB.1
  have la := decS_len na
  have lb := decS_len nb
  have G1 : Good T 0 (decS na).length ∧ satU (seg T 0 (decS na).length) = na := by
    have := good_at [] (A ++ decS nb ++ [58] ++ B) na (by omega) (by simp; omega)
    rw [show [] ++ decS na ++ [58] ++ (A ++ decS nb ++ [58] ++ B) = T by rw [hT.out]; simp] at this
    simpa using this
  have G2 : Good T ((decS na).length + 1 + na) ((decS na).length + 1 + na + (decS nb).length) ∧ satU (seg T ((decS na).length + 1 + na) ((decS na).length + 1 + na + (decS nb).length)) = nb := by
    have := good_at ([] ++ decS na ++ [58] ++ A) B nb (by omega) (by omega)
    rw [← hT.out, show ([] ++ decS na ++ [58] ++ A : List Int).length = (decS na).length + 1 + na by simp [hlA]; omega] at this
    exact this
  obtain ⟨k1, hk1⟩ : ∃ k1, Hid ((decS na).length = k1) := ⟨_, rfl⟩
  obtain ⟨kb, hkb⟩ : ∃ kb, Hid ((decS nb).length = kb) := ⟨_, rfl⟩
  rw [hk1.out] at G1 G2 la
  rw [hkb.out] at G2 lb
  have HF := hid hF
  have HA := hid hA
  have HB := hid hB
  have HW := hid hwf
  have HG1 := hid G1
  have HG2 := hid G2
  have hTl : T.length = k1 + 1 + na + kb + 1 + nb := by rw [hT.out]; simp [hk1.out, hkb.out, hlA, hlB]; omega
  have HTl := hid hTl
  have hTw : ∀ i, 0 ≤ T.getD i 0 ∧ T.getD i 0 ≤ 255 := by
    intro i
    by_cases hi : i < T.length
    · rw [List.getD_eq_getElem?_getD, List.getElem?_eq_getElem hi]
      have hmem := List.getElem_mem hi
      have hm2 : ∀ z ∈ T, 0 ≤ z ∧ z ≤ 255 := by
        intro z hz
        rw [hT.out] at hz
        simp only [List.nil_append, List.mem_append, List.mem_singleton] at hz
        rcases hz with ((((hz | hz) | hz) | hz) | hz) | hz
        · have := hla.2.1 z hz; omega
        · omega
        · exact hwf z (Or.inl hz)
        · have := hlb.2.1 z hz; omega
        · omega
        · exact hwf z (Or.inr hz)
      exact hm2 _ hmem
    · rw [List.getD_eq_getElem?_getD, List.getElem?_eq_none (by omega)]; simp
  have HTw := hid hTw
  have hTB : ∀ i, i < nb → T.getD (k1 + 1 + na + kb + 1 + i) 0 = B.getD i 0 := by
    intro i hi
    have := getD_left ([] ++ decS na ++ [58] ++ A ++ decS nb ++ [58]) B [] i (by omega)
    rw [List.append_nil, ← hT.out, show ([] ++ decS na ++ [58] ++ A ++ decS nb ++ [58] : List Int).length = k1 + 1 + na + kb + 1 by simp [hk1.out, hkb.out, hlA]; omega] at this
    exact this
  have HTB := hid hTB
  clear hTB hTw hTl G1 G2 hwf hA hB hF hla hlb hlA hlB
  go_enter Tryf.func4, Tryf.ntmps4
  go_wp2_with (go_at_call 11; refine (swapW (bytes11_yes _ _ _ _ _ _ _ (by omega))).mono ?_; rintro e w' ⟨rfl, rfl⟩)
  refine (frame_any w.heap.size 0 na ca ao (.slice none 0 0) [] A w (World.ownsRow_nil _ _ _ _) (by omega) (by omega) (Nat.le_refl _) (Hid.out HA)).mono ?_
  rintro e w1 ⟨V1, rfl, hown1, hb1⟩
  have HO1 := hid hown1
  clear hown1
  go_wp2_with fail
  refine (frame_any w.heap.size _ nb cb bo V1 _ B w1 (Hid.out HO1) (by rw [hk1.out]; omega) (by omega) hb1.size (Arg.later (Hid.out HB) hb1)).mono ?_
  rintro e w2 ⟨V2, rfl, hown2, hb2⟩
  rw [← hT.out, hk1.out, hkb.out] at hown2
  obtain ⟨hlen, g, cap, hV, hbg, hgz, hcap, hcells⟩ := row_form hown2 (by omega)
  obtain ⟨n, hn⟩ : ∃ n, Hid (0 + k1 + 1 + na + kb + 1 + nb = n) := ⟨_, rfl⟩
  rw [hn.out] at hlen hV hcap hcells
  have hbig : n ≤ 1099511627776 := by have := hn.out; omega
  have HC := hid hcells
  have HL := hid hlen
  clear hown2 hcells hlen HO1
  rw [hV]
  go_wp2_with (go_at_call 9; refine (new9 _ _ _ _ _ rfl).mono ?_; rintro e w' ⟨rfl, rfl⟩)
  have D0 := hid (DecAt.made (g := g) (n := n) (cap := cap) (xs := T) (W := w2) hgz (Hid.out HC))
  refine (is_yes g _ k1 na _ ((Hid.out D0).yes (Hid.out HL) hbig hcap (Hid.out HG1).1 (Hid.out HG1).2)).mono ?_
  rintro e w4 ⟨rfl, m4, hw4⟩
  have D4 : Hid (DecAt g w2.heap.size n cap (k1 + 1 + na) T w4) := by rw [hw4]; exact (Hid.out D0).move _ m4 _ (by omega)
  have hb4 : Below w.heap.size w w4 := by
    rw [hw4]
    exact ((((hb1.trans hb2).alloc (Nat.le_trans hb1.size hb2.size) _).setCell (Nat.le_trans hb1.size hb2.size) _).trans (bdr _ _ m4))
  clear hw4
  go_wp2_with fail
  refine (str_yes g _ (k1 + 1 + na + kb) nb n T w4 (Hid.out HL) (Hid.out D4).hx (Hid.out HTw) (Hid.out D4).hgb (by have := hn.out; omega) ((Hid.out D4).yes (Hid.out HL) hbig hcap (Hid.out HG2).1 (Hid.out HG2).2)).mono ?_
  rintro e w5 ⟨rfl, m5, hw5⟩
  have D5 : Hid (DecAt g w2.heap.size n cap n T w5) := by rw [hw5]; exact (Hid.out D4).move _ m5 _ (by have := hn.out; omega)
  have hb5 : Below w.heap.size w w5 := by
    rw [hw5]
    exact ((hb4.setCell (Nat.le_trans hb1.size hb2.size) _).trans (bdr _ _ m5))
  clear hw5 hb4 D4 D0
  obtain ⟨S, hS⟩ : ∃ S : ByteArray, Hid (S = ⟨(bys (seg T (k1 + 1 + na + kb + 1) (k1 + 1 + na + kb + 1 + nb))).toArray⟩) := ⟨_, rfl⟩
  rw [← hS.out]
  have hl : (bys (seg T (k1 + 1 + na + kb + 1) (k1 + 1 + na + kb + 1 + nb))).length = nb := by unfold bys; rw [List.length_map, seg_len T _ _ n (Hid.out HL) (by have := hn.out; omega)]; omega
  have hSz : S.size = nb := by rw [hS.out, Lib.size_eq]; simpa using hl
  have hSg : ∀ i (h : i < S.size), (S[i].toNat : Int) = B.getD i 0 := by
    intro i h
    have h2 : i < (bys (seg T (k1 + 1 + na + kb + 1) (k1 + 1 + na + kb + 1 + nb))).length := by omega
    have h3 := bys_get T (k1 + 1 + na + kb + 1) nb n (Hid.out HL) (by have := hn.out; omega) (Hid.out HTw) i h2
    rw [Hid.out HTB i (by omega)] at h3
    rw [← h3]
    have hS2 := hS.out
    subst hS2
    rfl
  have HSg := hid hSg
  clear hSg hl hS
  go_wp2_with fail
  refine (is_no _ _ (DecAt.over F (by rw [hb5.tape]; exact Hid.out HF) (Hid.out D5))).mono ?_
  rintro e w6 ⟨rfl, hb6⟩
  have hb : Below w.heap.size w w6 := hb5.trans (hb6.mono (Nat.le_trans hb1.size hb2.size))
  have HBx := hid (Arg.later (Hid.out HB) hb)
  clear hb5 hb6 hb1 hb2 D5 HB HA HG1 HG2 HTw HTB HTl HC HL HW
  subst hSz
  go_wp2
  have h0 : ¬ 0 < S.size := by have := hb0.out; omega
  go_loopw [11] (fun i wr => i = .int .i64 0 ∧ wr = w6) (fun _ _ => 0)
  case atStart => exact ⟨rfl, rfl⟩
  case round =>
    obtain ⟨rfl, rfl⟩ := hrel
    go_wp2
    go_ret
    exact ⟨rfl, hb⟩
end Go.Proofs.Qxb6612599aFmt
