/-
  THE TOLD CARD OF 'zzlaws_pkg_tracker_b1.FnIsStringStepsPastOneString': the wrap and the builder (after the guide's TagTold and TagSeven, turned to this program).
-/
import Derived.Test.Qxb6612599aFmtCards
import Derived.Test.Qxb6612599aFmtSteps
import Derived.OpenShut
import Derived.ProofKit
import Derived.ChangeSlices
import Derived.ChangeSame
import Derived.ChangeMaps5
import Derived.JoinedOf
import Derived.Carry
import Derived.Stop.JoinedAt
import Derived.Stop.Texts
import Derived.Stop.JoinedTold
import Derived.SizedLaws
import Derived.SevenToldRow
namespace Go.Proofs.Qxb6612599aFmt.steps
open Go.ChangeShapes Go.WideShapes Go.ChangeAt Go.RowKit Go.Kit
open Go.Extern.Stop Go.Stop Go.Extern

theorem own : ownKnob Tryf.prog.godebug = none := by kernel_rfl
theorem laidOut : laidOutB Tryf.pinned.checked.prog = true := by kernel_rfl
theorem cells5 : Tryf.prog.cellsOf 5 = 1 := by kernel_rfl

theorem cell_lt {w : World} {g j : Nat} {v : Value} (h : w.cell? ⟨g, j, none⟩ = some v) : g < w.heap.size := by
  by_cases hg : g < w.heap.size
  · exact hg
  · simp [World.cell?, Array.getElem?_eq_none (show w.heap.size ≤ g by omega)] at h

/-- A slice of bytes that came in, as the walk wants it. -/
theorem open_arg {H : Type} {enc : TypeId × Value → H} {W : World} {base fuel : Nat} {held : Bool} {a0 : Option Addr} {len cap : Nat} {x : DataW H × List MemPlace}
    (hf : DataW.trod enc Tryf.prog W base (fun _ => true) held fuel 22 (Value.slice a0 len cap).cells.toList = some x) :
    len ≤ maxLen ∧ ∃ ys : List Int, Arg a0 len ys W.heap.size W ∧ ∀ z ∈ ys, 0 ≤ z ∧ z ≤ 255 := by
  rcases open_ints Tryf.underlying22 Tryf.underlying5 cells5 hf with ⟨hcs, hx⟩ | ⟨a, len', cap', zs, hcs, _, hl, hm, hz, hx, hcell, hwz⟩
  · simp [Value.cells] at hcs
    obtain ⟨rfl, rfl, rfl⟩ := hcs
    exact ⟨Nat.zero_le _, [], ⟨rfl, Or.inl rfl⟩, fun z hz => by cases hz⟩
  · simp [Value.cells] at hcs
    obtain ⟨rfl, rfl, rfl⟩ := hcs
    simp only [if_true] at hz
    refine ⟨by omega, zs.take len, ⟨by rw [List.length_take]; omega, ?_⟩, fun z hz => bounds_u8 (hwz z (List.mem_of_mem_take hz))⟩
    by_cases h0 : len = 0
    · exact Or.inl h0
    · obtain ⟨g, o, rfl, hc⟩ := ints_at hcell (by omega)
      refine Or.inr ⟨g, o, rfl, cell_lt (hc 0 (by omega)), fun i hi => ?_⟩
      rw [hc i (by omega), List.getD_eq_getElem?_getD, List.getD_eq_getElem?_getD, List.getElem?_take_of_lt hi]

theorem steps_any (F : Interp) (ao bo : Option Addr) (na ca nb cb : Nat) (A B : List Int) (w : World) (hF : F.answers w.tape) (hma : na ≤ maxLen) (hmb : nb ≤ maxLen)
    (hA : Arg ao na A w.heap.size w) (hB : Arg bo nb B w.heap.size w) (hwa : ∀ z ∈ A, 0 ≤ z ∧ z ≤ 255) (hwb : ∀ z ∈ B, 0 ≤ z ∧ z ≤ 255) :
    Calls Tryf.prog 4 #[.slice ao na ca, .slice bo nb cb] w fun e w' => e = .returned (.bool true) ∧ Below w.heap.size w w' := by
  by_cases h1 : 1048576 < na + nb
  · exact steps_big _ _ _ _ _ _ w hma hmb h1
  · by_cases h2 : 524288 < na ∨ 524288 < nb
    · exact steps_half _ _ _ _ _ _ w (by omega) h2
    · have hw : ∀ z, z ∈ A ∨ z ∈ B → 0 ≤ z ∧ z ≤ 255 := fun z hz => hz.elim (hwa z) (hwb z)
      by_cases h0 : nb = 0
      · exact steps_none F ao bo na ca cb nb A B w hF (by omega) (by omega) hA hB hw h0
      · obtain ⟨g, o, rfl, hg, hx⟩ := hB.2.resolve_left h0
        exact steps_some F ao g o na ca cb nb A B w hF (by omega) (by omega) hA hB hw (by omega)

set_option maxRecDepth 100000 in
theorem t_lifted (os : Os) (started : os.Started) (H : Type) (enc : TypeId × Value → H) :
    ReturnsInTold none {} Tryf.checked os 4 .any Input.okWide ((OpenSpec.ofChange Rows.fnIsStringStepsPastOneStringSpec).preRow enc Tryf.prog Tryf.f4 [] false []) (fun F => ((OpenSpec.ofChange Rows.fnIsStringStepsPastOneStringSpec).at F).post enc Tryf.prog Tryf.f4 false true false false) (aloneAtReturn Tryf.prog) nothingAlways := by
  refine returnsInTold_of_row (C := Tryf.checked) (s := OpenSpec.ofChange Rows.fnIsStringStepsPastOneStringSpec) (by kernel_rfl) own started (by kernel_rfl) Tryf.func4
    (OpenSpec.witness_stopped (enc := enc) (C := Tryf.checked) false ⟨#[], #[.slice none 0 0, .slice none 0 0], []⟩ 8 (by kernel_rfl) (by kernel_rfl) (by kernel_rfl) (by kernel_rfl)) ?_
  intro F W base args ds gs before _ hF hval0 hW _ _ hsz _ _
  have hval : ∀ (j : Nat) t v, Tryf.f4.params[j]? = some t → args[j]? = some v → Value.okWide Tryf.prog W .any base t v := hval0
  have hW' := hW
  obtain ⟨p, q, hA0, hV, rfl, _, _⟩ := hW
  have hA : DataW.TrodAll enc Tryf.prog W 0 (fun _ => true) true Tryf.f4.params.toList args.toList ds p := hA0
  rw [Tryf.params4] at hA hval
  obtain ⟨v0, v1, d0, d1, p0, p1, rfl, rfl, rfl, h0, h1⟩ := trodAll_two hA
  obtain ⟨rfl, rfl⟩ := trodVars_none hV
  obtain ⟨a0, len0, cap0, rfl⟩ := okWide_slice Tryf.underlying22 (hval 0 22 v0 rfl rfl)
  obtain ⟨a1, len1, cap1, rfl⟩ := okWide_slice Tryf.underlying22 (hval 1 22 v1 rfl rfl)
  have h0k := h0
  have h1k := h1
  obtain ⟨fuel0, hf0⟩ := h0
  obtain ⟨fuel1, hf1⟩ := h1
  clear hA0 hval0
  simp only [List.append_nil] at hW'
  have hlt : ∀ x ∈ p0 ++ p1, x.block < W.heap.size := fun x hx => by simpa using hW'.lt x hx
  have hargs0 : ∀ (W' : World), Below W.heap.size W W' → DataW.Trod enc Tryf.prog W' 0 (fun b => decide (b < W.heap.size)) true 22 (.slice a0 len0 cap0) d0 p0 :=
    fun W' hn => Below.trod laidOut (by kernel_rfl) (of_decide_eq_true (by kernel_rfl)) h0k hn (fun x hx => hlt x (List.mem_append_left _ hx))
  have hargs1 : ∀ (W' : World), Below W.heap.size W W' → DataW.Trod enc Tryf.prog W' 0 (fun b => decide (b < W.heap.size)) true 22 (.slice a1 len1 cap1) d1 p1 :=
    fun W' hn => Below.trod laidOut (by kernel_rfl) (of_decide_eq_true (by kernel_rfl)) h1k hn (fun x hx => hlt x (List.mem_append_right _ hx))
  obtain ⟨hm0, A, hA', hwa⟩ := open_arg hf0
  obtain ⟨hm1, B, hB', hwb⟩ := open_arg hf1
  refine (steps_any F.told a0 a1 len0 cap0 len1 cap1 A B W hF hm0 hm1 hA' hB' hwa hwb).mono fun e W' ⟨he, hnx⟩ => ?_
  subst he
  refine ⟨_, rfl, _, _, _, [], _, [], hW', ?_, trodAll_mk2 (hargs0 _ hnx) (hargs1 _ hnx), rfl, hnx.frame _, fun h => by cases h⟩
  exact trodAll_mk1 (shut_bool Tryf.underlying4 _)

theorem stops : Rows.fnIsStringStepsPastOneStringRow.stops = Tryf.pinned.checked.prog.stops := by kernel_rfl
theorem stopKnobs : Tryf.pinned.checked.prog.stopKnobs = [] := by kernel_rfl
theorem quiet (os : Os) : Stop.quiet Tryf.pinned.checked.prog os := by
  intro k hk
  rw [stopKnobs] at hk
  cases hk

/-- THE STATEMENT. -/
theorem proved : Rows.FnIsStringStepsPastOneStringToldSaid :=
  Claim7.holds_of_told_any 4 Tryf.f4 _ _ [] _ _ _ (by kernel_rfl) rfl rfl rfl laidOut (by kernel_rfl) rfl ⟨rfl, rfl, rfl, rfl, rfl, rfl, rfl⟩ rfl rfl (by kernel_rfl) (by kernel_rfl) Tryf.func4 (by kernel_rfl)
    (of_decide_eq_true (by kernel_rfl)) (of_decide_eq_true (by kernel_rfl)) stops rfl stopKnobs.symm (by kernel_rfl)
    (by kernel_rfl) (by kernel_rfl) (by kernel_rfl) (by kernel_rfl) (by kernel_rfl) (by kernel_rfl) (by kernel_rfl) (by kernel_rfl) (by kernel_rfl) rfl (by kernel_rfl) rfl rfl
    rfl rfl
    rfl (by kernel_rfl) (by kernel_rfl) (by kernel_rfl) (by decide) (by kernel_rfl)
    (OpenClaim.moreEntering_of (by kernel_rfl) (by kernel_rfl) (by kernel_rfl) (by kernel_rfl) (by kernel_rfl) (by kernel_rfl) (by kernel_rfl) (by kernel_rfl) (by kernel_rfl) (by kernel_rfl))
    ⟨_, WideRow.started_initial, quiet _⟩
    (fun os started _ H enc _ => t_lifted os started H enc)
end Go.Proofs.Qxb6612599aFmt.steps
