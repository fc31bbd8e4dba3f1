import Derived.Test.Qxb6612599aFmtDec
namespace Go.Proofs.Qxb6612599aFmt
open Go.RowKit

theorem bv_app (xs ys : List Int) : bv (xs ++ ys) = bv xs ++ bv ys := by simp [bv]

set_option maxHeartbeats 1000000 in
theorem frame_some (base m n cap g o : Nat) (V : Value) (xs ys : List Int) (w : World) (hown : w.ownsRow base 5 1 V m (bv xs)) (hm : m ≤ 2097152) (hn : n ≤ 1048576) (hbase : base ≤ w.heap.size) (hgb : g < base) (hy : ys.length = n)
    (hx : ∀ i, i < n → w.cell? ⟨g, o + i, none⟩ = some (.int .u8 (ys.getD i 0))) :
    Calls Tryf.prog 12 #[V, .slice (some ⟨g, o, none⟩) n cap] w
      fun e w' => ∃ V', e = .returned V' ∧ w'.ownsRow base 5 1 V' (m + (decS n).length + 1 + n) (bv (xs ++ decS n ++ [58] ++ ys)) ∧ Below base w w' := by
  obtain ⟨i0, hi, hz0, hz1, hz2⟩ := info5b
  have hdl := decS_len n
  have HO := hidW hown
  have HX := hidW hx
  have HY := hidW hy
  have HI := hidW (show Tryf.prog.info? 5 = some i0 ∧ i0.zero = some (Value.int IntKind.u8 0) ∧ i0.size = 1 ∧ i0.bytes = 1 from ⟨hi, hz0, hz1, hz2⟩)
  clear hown hx hi hz0 hz1 hz2 hy
  go_enter Tryf.func12, Tryf.ntmps12
  go_wp2_with fail
  refine (dec_any base m n V xs w (Hid.out HO) (by omega) hn hbase).mono ?_
  rintro e w1 ⟨V1, rfl, hown1, hb1⟩
  have hs1 := hb1.size
  obtain ⟨hi, hz0, hz1, hz2⟩ := Hid.out HI
  go_wp2_with (at_builtin; refine wpList_append_own _ rfl _ _ 22 rfl base 5 i0 (.int .u8 0) 1 1 Tryf.underlying22 hi hz0 hz1 hz2 rfl (by decide) _ _ _ rfl (hown1.alloc _) ⟨_, 0, none⟩ 1 1 [.int .u8 58] rfl rfl ?c1 ?c2 ?c3 ?c4 ?c5 ?_)
  case c1 => exact cell_one_new _ _ _
  case c2 => intro u hu; simp at hu; subst hu; rfl
  case c3 => unfold maxLen; omega
  case c4 => omega
  case c5 => simp; omega
  intro V2 w2 hown2 hgrow2 _
  have hb2 : Below base w w2 := (hb1.alloc (by omega) _).grown hgrow2 (by simp; omega) (fun k hk => (hown1.lt k hk).1)
  have HO2 : Hid (w2.ownsRow base 5 1 V2 (m + (decS n).length + 1) (bv (xs ++ decS n ++ [58]))) := by rw [bv_app]; exact hown2
  clear hown2 hgrow2 hown1 hb1 hs1 hi hz0 hz1 hz2 HO
  go_wp2
  go_loopw [0, 5] (fun V' iv wr => ∃ j : Nat, j ≤ n ∧ iv = .int .i64 j ∧ Hid (wr.ownsRow base 5 1 V' (m + (decS n).length + 1 + j) (bv (xs ++ decS n ++ [58] ++ ys.take j))) ∧ Below base w wr) (fun _ iv _ => n - (intOf iv).toNat)
  case atStart => exact ⟨0, Nat.zero_le _, rfl, by simp [Hid] at HO2 ⊢; exact HO2, hb2⟩
  case round =>
    obtain ⟨j, hjn, rfl, hown3, hb3⟩ := hrel
    by_cases hlt : j < n
    · have hcell : wr.cell? ⟨g, o + j, none⟩ = some (.int .u8 (ys.getD j 0)) := by rw [hb3.cell (p := ⟨g, o + j, none⟩) hgb]; exact Hid.out HX j hlt
      generalize hcv : ys.getD j 0 = cv at hcell
      obtain ⟨hi, hz0, hz1, hz2⟩ := Hid.out HI
      have hsz := hb3.size
      go_wp2_with (at_builtin; refine wpList_append_own _ rfl _ _ 22 rfl base 5 i0 (.int .u8 0) 1 1 Tryf.underlying22 hi hz0 hz1 hz2 rfl (by decide) _ _ _ rfl ((Hid.out hown3).alloc _) ⟨_, 0, none⟩ 1 1 [.int .u8 cv] rfl rfl ?c1 ?c2 ?c3 ?c4 ?c5 ?_)
      case c1 => exact cell_one_new _ _ _
      case c2 => intro u hu; simp at hu; subst hu; rfl
      case c3 => unfold maxLen; omega
      case c4 => omega
      case c5 => simp; omega
      intro V4 w4 hown4 hgrow4 _
      have hb4 : Below base w w4 := (hb3.alloc (by omega) _).grown hgrow4 (by simp; omega) (fun k hk => ((Hid.out hown3).lt k hk).1)
      have HO4 : Hid (w4.ownsRow base 5 1 V4 (m + (decS n).length + 1 + (j + 1)) (bv (xs ++ decS n ++ [58] ++ ys.take (j + 1)))) := by
        have e1 : bv (xs ++ decS n ++ [58] ++ ys.take (j + 1)) = bv (xs ++ (decS n ++ 58 :: List.take j ys)) ++ [.int .u8 cv] := by
          rw [take_snocI ys j (by rw [Hid.out HY]; exact hlt), hcv]; simp [bv]
        show w4.ownsRow base 5 1 V4 (m + (decS n).length + 1 + j + 1) _
        rw [e1]; exact hown4
      clear hown4 hgrow4 hown3 hb3 hcell hi hz0 hz1 hz2 hsz
      go_wp2
      go_roundw
      case rel => first | exact ⟨j + 1, by omega, by go_num, HO4, hb4⟩ | ((repeat apply Exists.intro); exact ⟨⟨j + 1, by omega, by go_num, HO4, hb4⟩, rfl⟩)
      case measure => simp [intOf]; omega
    · obtain rfl : j = n := by omega
      go_wp2
      go_ret
      refine ⟨_, rfl, ?_, hb3⟩
      have h1 := Hid.out hown3
      rw [List.take_of_length_le (by rw [Hid.out HY]; omega)] at h1
      exact h1

set_option maxHeartbeats 1000000 in
theorem frame_zero (base m cap : Nat) (a : Option Addr) (V : Value) (xs : List Int) (w : World) (hown : w.ownsRow base 5 1 V m (bv xs)) (hm : m ≤ 2097152) (hbase : base ≤ w.heap.size) :
    Calls Tryf.prog 12 #[V, .slice a 0 cap] w
      fun e w' => ∃ V', e = .returned V' ∧ w'.ownsRow base 5 1 V' (m + (decS 0).length + 1 + 0) (bv (xs ++ decS 0 ++ [58] ++ [])) ∧ Below base w w' := by
  obtain ⟨i0, hi, hz0, hz1, hz2⟩ := info5b
  have HO := hidW hown
  clear hown
  go_enter Tryf.func12, Tryf.ntmps12
  go_wp2_with fail
  refine (dec_any base m 0 V xs w (Hid.out HO) (by omega) (by omega) hbase).mono ?_
  rintro e w1 ⟨V1, rfl, hown1, hb1⟩
  have hs1 := hb1.size
  have HDL := hidW (show (decS 0).length = 1 from rfl)
  go_wp2_with (at_builtin; refine wpList_append_own _ rfl _ _ 22 rfl base 5 i0 (.int .u8 0) 1 1 Tryf.underlying22 hi hz0 hz1 hz2 rfl (by decide) _ _ _ rfl (hown1.alloc _) ⟨_, 0, none⟩ 1 1 [.int .u8 58] rfl rfl ?c1 ?c2 ?c3 ?c4 ?c5 ?_)
  case c1 => exact cell_one_new _ _ _
  case c2 => intro u hu; simp at hu; subst hu; rfl
  case c3 => have := Hid.out HDL; unfold maxLen; omega
  case c4 => have := Hid.out HDL; omega
  case c5 => simp; omega
  intro V2 w2 hown2 hgrow2 _
  have hb2 : Below base w w2 := (hb1.alloc (by omega) _).grown hgrow2 (by simp; omega) (fun k hk => (hown1.lt k hk).1)
  have HO2 : Hid (w2.ownsRow base 5 1 V2 (m + (decS 0).length + 1) (bv (xs ++ decS 0 ++ [58]))) := by rw [bv_app]; exact hown2
  clear hown2 hgrow2 hown1 hb1 hs1 hi hz0 hz1 hz2 HO
  go_wp2
  go_loop [0, 5] (fun V' iv => V' = V2 ∧ iv = .int .i64 0) (fun _ _ => 0)
  case atStart => exact ⟨rfl, rfl⟩
  case round =>
    obtain ⟨rfl, rfl⟩ := hrel
    go_wp2
    go_ret
    refine ⟨_, rfl, ?_, hb2⟩
    have h := Hid.out HO2
    simpa using h
end Go.Proofs.Qxb6612599aFmt
