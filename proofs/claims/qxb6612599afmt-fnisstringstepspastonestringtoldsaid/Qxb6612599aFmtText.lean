import Derived.Test.Qxb6612599aFmtTop
import Derived.Test.Qxb6612599aFmtFrame
namespace Go.Proofs.Qxb6612599aFmt
open Go.RowKit

theorem valD_snoc (l : List Int) (c : Int) : valD (l ++ [c]) = valD l * 10 + (c - 48) := by unfold valD; rw [List.foldl_append]; rfl
theorem decF_ok : ∀ (f n : Nat), 0 < n → n < 10 ^ f → valD (decF f n) = n ∧ (∀ c ∈ decF f n, 48 ≤ c ∧ c ≤ 57) ∧ 0 < (decF f n).length ∧ (decF f n).getD 0 0 ≠ 48
  | 0, n, h0, h1 => by simp at h1; omega
  | f + 1, n, h0, h1 => by
    rw [decF_step f n h0]
    by_cases hq : n / 10 = 0
    · rw [hq, decF_zero]
      refine ⟨?_, ?_, by simp, ?_⟩
      · simp [valD]; omega
      · intro c hc; simp at hc; omega
      · simp; omega
    · obtain ⟨a, b, c, d⟩ := decF_ok f (n / 10) (by omega) (by rw [Nat.pow_succ] at h1; omega)
      refine ⟨?_, ?_, by simp, ?_⟩
      · rw [valD_snoc, a]; omega
      · intro x hx
        rw [List.mem_append] at hx
        rcases hx with hx | hx
        · exact b x hx
        · simp at hx; omega
      · rw [List.getD_eq_getElem?_getD, List.getElem?_append_left c, ← List.getD_eq_getElem?_getD]; exact d
theorem decS_ok (n : Nat) (hn : n ≤ 1048576) : satU (decS n) = n ∧ (∀ c ∈ decS n, 48 ≤ c ∧ c ≤ 57) ∧ 0 < (decS n).length ∧ ¬ ((decS n).getD 0 0 = 48 ∧ 1 < (decS n).length) := by
  unfold decS
  by_cases h : n = 0
  · subst h; simp [satU]
  · rw [if_neg h]
    obtain ⟨a, b, c, d⟩ := decF_ok 20 n (by omega) (Nat.lt_of_le_of_lt hn (by decide))
    refine ⟨?_, b, c, fun h => d h.1⟩
    have hs := satU_go2 (decF 20 n) 0 0 (by omega) (Or.inl rfl) b
    unfold valD at a
    unfold satU
    omega

theorem getD_left (pre l suf : List Int) (i : Nat) (h : i < l.length) : (pre ++ l ++ suf).getD (pre.length + i) 0 = l.getD i 0 := by
  rw [List.getD_eq_getElem?_getD, List.getD_eq_getElem?_getD, List.append_assoc, List.getElem?_append_right (by omega), Nat.add_sub_cancel_left, List.getElem?_append_left h]

theorem good_at (pre suf : List Int) (n : Nat) (hn : n ≤ 1048576) (hs : n ≤ suf.length) :
    Good (pre ++ decS n ++ [58] ++ suf) pre.length (pre.length + (decS n).length) ∧ satU (seg (pre ++ decS n ++ [58] ++ suf) pre.length (pre.length + (decS n).length)) = n := by
  obtain ⟨a, b, c, d⟩ := decS_ok n hn
  have e : pre ++ decS n ++ [58] ++ suf = pre ++ decS n ++ ([58] ++ suf) := by simp
  have hseg : seg (pre ++ decS n ++ [58] ++ suf) pre.length (pre.length + (decS n).length) = decS n := by
    unfold seg
    rw [e, List.append_assoc, List.drop_left, Nat.add_sub_cancel_left, List.take_left]
  have hd : ∀ i, i < (decS n).length → (pre ++ decS n ++ [58] ++ suf).getD (pre.length + i) 0 = (decS n).getD i 0 := fun i hi => by rw [e]; exact getD_left _ _ _ i hi
  refine ⟨⟨by omega, by simp, ?_, ?_, ?_, ?_⟩, by rw [hseg]; exact a⟩
  · intro i h1 h2
    obtain ⟨u, rfl⟩ : ∃ u, i = pre.length + u := ⟨i - pre.length, by omega⟩
    rw [hd u (by omega), List.getD_eq_getElem?_getD, List.getElem?_eq_getElem (by omega)]
    exact b _ (List.getElem_mem _)
  · have := getD_left (pre ++ decS n) [58] suf 0 (by simp)
    rw [Nat.add_zero, List.length_append] at this
    exact this
  · have := hd 0 c
    rw [Nat.add_zero] at this
    rw [this, Nat.add_sub_cancel_left]; exact d
  · rw [hseg, a]; simp; omega

/-- The decoder in block b, over the row g, at place p. -/
structure DecAt (g b n cap p : Nat) (xs : List Int) (w : World) : Prop where
  hd : w.cell? ⟨b, 0, none⟩ = some (.slice (some ⟨g, 0, none⟩) n cap)
  hp : w.cell? ⟨b, 1, none⟩ = some (.int .i64 p)
  hfz : w.frozen? ⟨b, 1, none⟩ = false
  hx : ∀ i, i < n → w.cell? ⟨g, i, none⟩ = some (.int .u8 (xs.getD i 0))
  hgb : g < b
  hbz : b < w.heap.size

theorem DecAt.move {g b n cap p : Nat} {xs : List Int} {w : World} (D : DecAt g b n cap p xs w) (q m : Nat) (z : Int) (hz : z = q) : DecAt g b n cap q xs ((w.setCell ⟨b, 1, none⟩ (.int .i64 z)).drewN m) := by
  have hg := D.hgb
  refine ⟨?_, ?_, ?_, ?_, D.hgb, ?_⟩
  · show (w.setCell ⟨b, 1, none⟩ (.int .i64 z)).cell? ⟨b, 0, none⟩ = _
    rw [World.cell?_setCell_other _ _ _ _ (by simp)]; exact D.hd
  · show (w.setCell ⟨b, 1, none⟩ (.int .i64 z)).cell? ⟨b, 1, none⟩ = _
    rw [World.cell?_setCell_same _ _ _ D.hp, hz]
  · show (w.setCell ⟨b, 1, none⟩ (.int .i64 z)).frozen? ⟨b, 1, none⟩ = _
    rw [World.frozen?_setCell]; exact D.hfz
  · intro i hi
    show (w.setCell ⟨b, 1, none⟩ (.int .i64 z)).cell? ⟨g, i, none⟩ = _
    rw [World.cell?_setCell_other _ _ _ _ (fun h => absurd (congrArg Addr.block h) (show ¬ b = g by omega))]; exact D.hx i hi
  · simpa using D.hbz
theorem DecAt.yes {g b n cap p k v : Nat} {xs : List Int} {w : World} (D : DecAt g b n cap p xs w) (hn : xs.length = n) (hbig : n ≤ 1099511627776) (hcap : n ≤ cap) (G : Good xs p k) (hv : satU (seg xs p k) = v) : BytesYes g b k v w :=
  bytes_ok g b p k n cap xs w hn hbig hcap D.hd D.hp D.hfz D.hx G v hv
theorem DecAt.over {g b n cap : Nat} {xs : List Int} {w : World} (F : Stop.Interp) (hF : F.answers w.tape) (D : DecAt g b n cap n xs w) : BytesNo b w :=
  bytes_start b w D.hbz (start_end F b n cap _ w hF D.hd D.hp)
theorem DecAt.made {g n cap : Nat} {xs : List Int} {W : World} (hg : g < W.heap.size) (hx : ∀ i, i < n → W.cell? ⟨g, i, none⟩ = some (.int .u8 (xs.getD i 0))) :
    DecAt g W.heap.size n cap 0 xs (W.alloc (.cells #[.slice (some ⟨g, 0, none⟩) n cap, .int .i64 0, .int .i64 0] 37)) :=
  ⟨dec0 _ W, dec1 _ W, dec_fz _ W, dec_cells g n xs _ W hg hx, hg, by simp⟩

/-- An argument of the law: its bytes lie below 'base', or it has none. -/
def Arg (ao : Option Addr) (n : Nat) (ys : List Int) (base : Nat) (w : World) : Prop :=
  ys.length = n ∧ (n = 0 ∨ ∃ g o, ao = some ⟨g, o, none⟩ ∧ g < base ∧ ∀ i, i < n → w.cell? ⟨g, o + i, none⟩ = some (.int .u8 (ys.getD i 0)))
theorem Arg.later {ao : Option Addr} {n base : Nat} {ys : List Int} {w w' : World} (h : Arg ao n ys base w) (hb : Below base w w') : Arg ao n ys base w' := by
  refine ⟨h.1, ?_⟩
  rcases h.2 with h0 | ⟨g, o, e, hg, hx⟩
  · exact Or.inl h0
  · exact Or.inr ⟨g, o, e, hg, fun i hi => by rw [hb.cell (p := ⟨g, o + i, none⟩) hg]; exact hx i hi⟩
theorem frame_any (base m n cap : Nat) (ao : Option Addr) (V : Value) (xs ys : List Int) (w : World) (hown : w.ownsRow base 5 1 V m (bv xs)) (hm : m ≤ 2097152) (hn : n ≤ 1048576) (hbase : base ≤ w.heap.size) (ha : Arg ao n ys base w) :
    Calls Tryf.prog 12 #[V, .slice ao n cap] w
      fun e w' => ∃ V', e = .returned V' ∧ w'.ownsRow base 5 1 V' (m + (decS n).length + 1 + n) (bv (xs ++ decS n ++ [58] ++ ys)) ∧ Below base w w' := by
  by_cases h0 : n = 0
  · subst h0
    obtain rfl : ys = [] := List.length_eq_zero_iff.1 ha.1
    exact frame_zero base m cap ao V xs w hown hm hbase
  · obtain ⟨g, o, rfl, hg, hx⟩ := ha.2.resolve_left h0
    exact frame_some base m n cap g o V xs ys w hown hm hn hbase hg ha.1 hx
theorem row_form {base n : Nat} {V : Value} {xs : List Int} {w : World} (h : w.ownsRow base 5 1 V n (bv xs)) (hn : 0 < n) :
    xs.length = n ∧ ∃ g cap, V = .slice (some ⟨g, 0, none⟩) n cap ∧ base ≤ g ∧ g < w.heap.size ∧ n ≤ cap ∧ ∀ i, i < n → w.cell? ⟨g, i, none⟩ = some (.int .u8 (xs.getD i 0)) := by
  have hl : xs.length = n := by have := h.1; simpa [bv] using this
  refine ⟨hl, ?_⟩
  have h' := h
  rcases h.2 with ⟨_, h0⟩ | ⟨g, cap, cur, hv, hbg, hg, h1, _, _, _⟩
  · omega
  · refine ⟨g, cap, hv, hbg, (Array.getElem?_eq_some_iff.1 hg).1, h1, fun i hi => ?_⟩
    subst hv
    rw [h'.cellAt i (by omega)]
    unfold bv
    rw [List.getElem?_map, List.getElem?_eq_getElem (by omega), List.getD_eq_getElem?_getD, List.getElem?_eq_getElem (by omega)]; rfl

set_option maxHeartbeats 400000 in
theorem bytes11_no (a b : Option Addr) (n c n' c' : Nat) (w : World) (_hm : n ≤ maxLen) (_hm' : n' ≤ maxLen) (h : 1048576 < n + n') :
    Calls Tryf.prog 11 #[.slice a n c, .slice b n' c'] w fun e w' => e = .returned (.bool false) ∧ w' = w := by
  unfold maxLen at *
  by_cases h1 : 1048576 < n
  · go_enter Tryf.func11, Tryf.ntmps11
    go_wp2
    go_ret
    exact ⟨rfl, rfl⟩
  · by_cases h2 : 1048576 < n'
    all_goals
      go_enter Tryf.func11, Tryf.ntmps11
      go_wp2
      go_ret
      exact ⟨rfl, rfl⟩

set_option maxHeartbeats 400000 in
theorem bytes11_yes (a b : Option Addr) (n c n' c' : Nat) (w : World) (h : n + n' ≤ 1048576) :
    Calls Tryf.prog 11 #[.slice a n c, .slice b n' c'] w fun e w' => e = .returned (.bool true) ∧ w' = w := by
  go_enter Tryf.func11, Tryf.ntmps11
  go_wp2
  go_ret
  exact ⟨rfl, rfl⟩
end Go.Proofs.Qxb6612599aFmt
