import Derived.Test.Qxb6612599aFmtRows
import Derived.WalkKit
import Derived.WalkSpells
import Derived.WalkLawsBesides
import Derived.Deep.QuietTactic
import Derived.BigQuiet
import Derived.Deep.OwnRows
import Derived.RangeFuncBox
import Derived.Deep.AppendLies
namespace Go.Proofs.Qxb6612599aFmt
open Go.RowKit

theorem info5c : (Tryf.prog.info? 5).map (fun i => (i.zero, i.size, i.bytes)) = some (some (.int .u8 0), 1, 1) := by kernel_rfl
theorem hidW {p : Prop} (h : p) : Hid p := h
theorem info5b : ∃ i, Tryf.prog.info? 5 = some i ∧ i.zero = some (.int .u8 0) ∧ i.size = 1 ∧ i.bytes = 1 := by
  obtain ⟨i, hi, h⟩ := Option.map_eq_some_iff.1 info5c
  simp only [Prod.mk.injEq] at h
  exact ⟨i, hi, h.1, h.2.1, h.2.2⟩

/-- The row's bytes as values. -/
def bv (xs : List Int) : List Value := xs.map (Value.int .u8)

set_option maxHeartbeats 1000000 in
theorem dec_zero (base m : Nat) (V : Value) (xs : List Int) (w : World) (hown : w.ownsRow base 5 1 V m (bv xs)) (hm : m ≤ 4194304) (hbase : base ≤ w.heap.size) :
    Calls Tryf.prog 15 #[V, .int .i64 0] w fun e w' => ∃ V', e = .returned V' ∧ w'.ownsRow base 5 1 V' (m + 1) (bv (xs ++ [48])) ∧ Below base w w' := by
  obtain ⟨i0, hi, hz0, hz1, hz2⟩ := info5b
  go_enter Tryf.func15, Tryf.ntmps15
  go_wp2_with (at_builtin; refine wpList_append_own _ rfl _ _ 22 rfl base 5 i0 (.int .u8 0) 1 1 Tryf.underlying22 hi hz0 hz1 hz2 rfl (by decide) _ _ _ rfl (hown.alloc _) ⟨w.heap.size, 0, none⟩ 1 1 [.int .u8 48] rfl rfl ?c1 ?c2 ?c3 ?c4 ?c5 ?_)
  case c1 => exact cell_one_new _ _ _
  case c2 => intro u hu; simp at hu; subst hu; rfl
  case c3 => unfold maxLen; omega
  case c4 => omega
  case c5 => simp; omega
  intro v' w1 hown' hgrow _
  go_wp2
  go_ret
  refine ⟨v', rfl, by rw [show bv (xs ++ [48]) = bv xs ++ [.int .u8 48] by simp [bv]]; exact hown', ?_⟩
  exact ((Below.refl base w).alloc hbase _).grown hgrow (by simp; omega) (fun k hk => (hown.lt k hk).1)

/-- The decimal digits of n, at most f of them; none of 0. -/
def decF : Nat → Nat → List Int
  | 0, _ => []
  | f + 1, n => if n = 0 then [] else decF f (n / 10) ++ [48 + ((n % 10 : Nat) : Int)]

def bfF (i : Nat) (L : List Int) (t : Nat) : Value := if i ≤ t then .int .u8 (L.getD (t - i) 0) else .int .u8 0
theorem bfF_set (q : Nat) (L : List Int) (d : Int) (t : Nat) : (if t = q then Value.int .u8 d else bfF (q + 1) L t) = bfF q (d :: L) t := by
  unfold bfF
  by_cases h : t = q
  · subst h; simp
  · rw [if_neg h]
    by_cases h2 : q + 1 ≤ t
    · rw [if_pos h2, if_pos (by omega)]
      obtain ⟨u, rfl⟩ : ∃ u, t = q + 1 + u := ⟨t - (q + 1), by omega⟩
      rw [show q + 1 + u - q = u + 1 by omega, show q + 1 + u - (q + 1) = u by omega]; rfl
    · rw [if_neg h2, if_neg (by omega)]
theorem decF_step (q n : Nat) (h : 0 < n) : decF (q + 1) n = decF q (n / 10) ++ [48 + ((n % 10 : Nat) : Int)] := by
  show (if n = 0 then [] else decF q (n / 10) ++ [48 + ((n % 10 : Nat) : Int)]) = _
  rw [if_neg (by omega)]
theorem decF_zero (q : Nat) : decF q 0 = [] := by cases q <;> simp [decF]

theorem zeros20 : ∀ i, i < (Array.replicate 20 (Value.int .u8 0)).size → (Array.replicate 20 (Value.int .u8 0))[i]? = some (bfF 20 [] i) := by
  intro i hi
  rw [Array.size_replicate] at hi
  rw [Array.getElem?_replicate, if_pos hi]
  unfold bfF; rw [if_neg (by omega)]
theorem owns_below {base e size n : Nat} {V : Value} {ys : List Value} {w wr : World} (h : w.ownsRow base e size V n ys) (hb : Below w.heap.size w wr) : wr.ownsRow base e size V n ys := by
  refine ⟨h.1, ?_⟩
  rcases h.2 with h0 | ⟨g, cap, cur, hv, hbg, hg, rest⟩
  · exact Or.inl h0
  · refine Or.inr ⟨g, cap, cur, hv, hbg, ?_, rest⟩
    have hlt : g < w.heap.size := (Array.getElem?_eq_some_iff.1 hg).1
    rw [hb.block g hlt]; exact hg
theorem own_ne {base n bf k : Nat} {V : Value} {ys : List Value} {w : World} {f : Nat → Value} (h : w.ownsRow base 5 1 V n ys) (hr : w.rowIs bf 45 k f) : some bf ≠ V.ownBlock := by
  intro he
  rcases h.2 with ⟨h0, _⟩ | ⟨g, cap, cur, hv, _, hg, _⟩
  · rw [h0] at he; cases he
  · rw [hv] at he
    obtain rfl : bf = g := by simpa [Value.ownBlock] using he
    obtain ⟨c, hc, _⟩ := hr
    rw [hc] at hg
    simp at hg
theorem take_snocI (L : List Int) (j : Nat) (h : j < L.length) : L.take (j + 1) = L.take j ++ [L.getD j 0] := by
  rw [List.take_succ_eq_append_getElem h, List.getD_eq_getElem?_getD, List.getElem?_eq_getElem h]; rfl

set_option maxHeartbeats 1000000 in
theorem dec_pos (base m N : Nat) (V : Value) (xs : List Int) (w : World) (hown : w.ownsRow base 5 1 V m (bv xs)) (hm : m ≤ 4194304) (hN0 : 0 < N) (hN : N ≤ 1048576) (hbase : base ≤ w.heap.size) :
    Calls Tryf.prog 15 #[V, .int .i64 N] w fun e w' => ∃ V', e = .returned V' ∧ w'.ownsRow base 5 1 V' (m + (decF 20 N).length) (bv (xs ++ decF 20 N)) ∧ Below base w w' := by
  obtain ⟨i0, hi, hz0, hz1, hz2⟩ := info5b
  have hN0b : ((N : Int) == 0) = false := by rw [beq_eq_false_iff_ne]; omega
  have HO := hidW hown
  have HI := hidW (show Tryf.prog.info? 5 = some i0 ∧ i0.zero = some (Value.int IntKind.u8 0) ∧ i0.size = 1 ∧ i0.bytes = 1 from ⟨hi, hz0, hz1, hz2⟩)
  clear hown hi hz0 hz1 hz2
  go_enter Tryf.func15, Tryf.ntmps15
  go_wp2
  go_loopw [1, 6] (fun nv iv wr => ∃ (n' i : Nat) (L : List Int), nv = .int .i64 n' ∧ iv = .int .i64 i ∧ i ≤ 20 ∧ n' ≤ 1048576 ∧ Hid (n' < 10 ^ i) ∧ Hid (decF 20 N = decF i n' ++ L) ∧ L.length = 20 - i ∧ Hid (wr.rowIs w.heap.size 45 20 (bfF i L)) ∧ Below w.heap.size w wr ∧ wr.heap.size = w.heap.size + 1) (fun nv _ _ => (intOf nv).toNat)
  case atStart => exact ⟨N, 20, [], rfl, rfl, Nat.le_refl _, hN, Nat.lt_of_le_of_lt hN (by decide), by simp [Hid], rfl, World.rowIs_alloc w _ 45 (bfF 20 []) zeros20, (Below.refl _ _).alloc (Nat.le_refl _) _, by simp⟩
  case round =>
    obtain ⟨n', i, L, rfl, rfl, hi20, hn', hlt10, hdec, hL, hrow, hb, hz⟩ := hrel
    by_cases hpos : 0 < n'
    · obtain ⟨q, rfl⟩ : ∃ q, i = q + 1 := by
        cases i with
        | zero => exact absurd (Hid.out hlt10) (by simp; omega)
        | succ q => exact ⟨q, rfl⟩
      have hcell := (Hid.out hrow).cell (i := q) (by omega)
      have hfz := (Hid.out hrow).frozen q
      generalize hcv : bfF (q + 1) L q = cv at hcell
      go_wp2
      go_roundw
      case rel =>
        refine ⟨n' / 10, q, (48 + ((n' % 10 : Nat) : Int)) :: L, by go_num, rfl, by omega, by omega, ?_, ?_, by simp; omega, ?_, hb.setCell (Nat.le_refl _) _, by simpa using hz⟩
        · have h1 := Hid.out hlt10
          show n' / 10 < 10 ^ q
          rw [Nat.pow_succ] at h1
          omega
        · show decF 20 N = _
          rw [Hid.out hdec, decF_step q n' hpos]; simp
        · exact ((Hid.out hrow).set q _).congr (fun t _ => bfF_set q L _ t)
      case measure => simp [intOf]; omega
    · obtain rfl : n' = 0 := by omega
      have hDL : decF 20 N = L := by rw [Hid.out hdec, decF_zero]; rfl
      have hown1 := owns_below (Hid.out HO) hb
      have HDL := hidW hDL
      obtain ⟨wo, hwo⟩ : ∃ wo : World, Hid (wo = wr) := ⟨_, rfl⟩
      clear hdec hDL hlt10
      go_wp2
      go_loopw [0, 6] (fun V' iv wr2 => ∃ j : Nat, i ≤ j ∧ j ≤ 20 ∧ iv = .int .i64 j ∧ Hid (wr2.ownsRow base 5 1 V' (m + (j - i)) (bv (xs ++ L.take (j - i)))) ∧ Hid (wr2.rowIs w.heap.size 45 20 (bfF i L)) ∧ Below base w wr2) (fun _ iv _ => 20 - (intOf iv).toNat)
      case atStart => exact ⟨i, Nat.le_refl _, hi20, rfl, by simp [Hid]; exact hown1, Hid.out hrow, hb.mono hbase⟩
      case round =>
        obtain ⟨j, hij, hj20, rfl, hown2, hrow2, hb2⟩ := hrel
        by_cases hlt : j < 20
        · have hcell := (Hid.out hrow2).cell (i := j) hlt
          rw [show bfF i L j = .int .u8 (L.getD (j - i) 0) by unfold bfF; rw [if_pos hij]] at hcell
          have hlt2 := (Hid.out hrow2).lt
          generalize hcv : L.getD (j - i) 0 = cv at hcell
          obtain ⟨hi, hz0, hz1, hz2⟩ := Hid.out HI
          have hsz := hb2.size
          go_wp2_with (at_builtin; refine wpList_append_own _ rfl _ _ 22 rfl base 5 i0 (.int .u8 0) 1 1 Tryf.underlying22 hi hz0 hz1 hz2 rfl (by decide) _ _ _ rfl ((Hid.out hown2).alloc _) ⟨_, 0, none⟩ 1 1 [.int .u8 cv] rfl rfl ?c1 ?c2 ?c3 ?c4 ?c5 ?_)
          case c1 => exact cell_one_new _ _ _
          case c2 => intro u hu; simp at hu; subst hu; rfl
          case c3 => unfold maxLen; omega
          case c4 => omega
          case c5 => simp; omega
          intro v' w1 hown' hgrow _
          have hne := own_ne (Hid.out hown2) (Hid.out hrow2)
          have hrow' : Hid (w1.rowIs w.heap.size 45 20 (bfF i L)) := ((Hid.out hrow2).alloc _).of_block (hgrow.block w.heap.size (by simp; omega) hne)
          have hb' : Below base w w1 := (hb2.alloc (by omega) _).grown hgrow (by simp; omega) (fun k hk => ((Hid.out hown2).lt k hk).1)
          have hown3 : Hid (w1.ownsRow base 5 1 v' (m + (j + 1 - i)) (bv (xs ++ L.take (j + 1 - i)))) := by
            rw [show j + 1 - i = j - i + 1 by omega, take_snocI L (j - i) (by omega), hcv, show bv (xs ++ (List.take (j - i) L ++ [cv])) = bv (xs ++ List.take (j - i) L) ++ [.int .u8 cv] by simp [bv]]
            exact hown'
          clear hown' hgrow hne hown2 hrow2 hb2 hcell hi hz0 hz1 hz2 hlt2 hsz
          go_wp2
          go_roundw
          case rel => first | exact ⟨j + 1, by omega, by omega, by go_num, hown3, hrow', hb'⟩ | ((repeat apply Exists.intro); exact ⟨⟨j + 1, by omega, by omega, by go_num, hown3, hrow', hb'⟩, rfl⟩)
          case measure => simp [intOf]; omega
        · obtain rfl : j = 20 := by omega
          go_wp2
          go_ret
          refine ⟨_, rfl, ?_, hb2⟩
          have h1 := Hid.out hown2
          rw [List.take_of_length_le (by omega)] at h1
          rw [Hid.out HDL, hL]; exact h1

/-- A number as the law writes it. -/
def decS (n : Nat) : List Int := if n = 0 then [48] else decF 20 n
theorem dec_any (base m N : Nat) (V : Value) (xs : List Int) (w : World) (hown : w.ownsRow base 5 1 V m (bv xs)) (hm : m ≤ 4194304) (hN : N ≤ 1048576) (hbase : base ≤ w.heap.size) :
    Calls Tryf.prog 15 #[V, .int .i64 N] w fun e w' => ∃ V', e = .returned V' ∧ w'.ownsRow base 5 1 V' (m + (decS N).length) (bv (xs ++ decS N)) ∧ Below base w w' := by
  by_cases h : N = 0
  · subst h; exact dec_zero base m V xs w hown hm hbase
  · rw [show decS N = decF 20 N by unfold decS; rw [if_neg h]]
    exact dec_pos base m N V xs w hown hm (by omega) hN hbase
theorem decF_len : ∀ (f n : Nat), (decF f n).length ≤ f
  | 0, n => by simp [decF]
  | f + 1, n => by
    unfold decF
    by_cases h : n = 0
    · simp [h]
    · have := decF_len f (n / 10)
      rw [if_neg h]; simp; omega
theorem decS_len (n : Nat) : (decS n).length ≤ 20 := by
  unfold decS; split
  · simp
  · exact decF_len 20 n
end Go.Proofs.Qxb6612599aFmt
