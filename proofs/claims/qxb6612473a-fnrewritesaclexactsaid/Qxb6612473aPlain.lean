import Derived.Test.Qxb6612473aAcl
namespace Go.Proofs.Qxb6612473a
open Go.RowKit

theorem idx_mem : ∀ (l : List UInt8), decide (0 ≤ Lib.indexByte l 47) = l.contains 47
  | [] => by decide
  | c :: l => by
    have ih := idx_mem l
    have hg := Lib.indexByte_ge l 47
    unfold Lib.indexByte
    by_cases hc : c = 47
    · subst hc; simp
    · have hc2 : (c == 47) = false := by simpa using hc
      simp only [hc2, Bool.false_eq_true, if_false]
      rw [List.contains_cons, show ((47 : UInt8) == c) = false by simpa using fun h => hc h.symm, Bool.false_or, ← ih]
      by_cases h0 : Lib.indexByte l 47 = -1
      · simp [h0]
      · have : ¬ (Lib.indexByte l 47 == -1) = true := by simpa using h0
        rw [if_neg this, decide_eq_decide]; omega
theorem hasSl_eq (l : List UInt8) : hasSl l = !((sls l : Int) == 0) := by
  unfold hasSl
  rw [idx_mem]
  unfold sls
  cases h : l.contains 47
  · have : ¬ (47 : UInt8) ∈ l := by simpa using h
    simp [List.count_eq_zero.2 this]
  · have : (47 : UInt8) ∈ l := by simpa using h
    have := List.count_pos_iff.2 this
    simp only [Bool.true_eq, Bool.not_eq_true', beq_eq_false_iff_ne, ne_eq]
    omega

theorem isAcl_dir (a : ByteArray) : isAcl (⟨#[47, 108, 115, 47, 108, 111, 99, 97, 108, 47, 97, 99, 108, 47]⟩ ++ a) = (!a.toList.isEmpty && ((sls a.data.toList : Int) == 0)) := by
  obtain ⟨⟨l⟩⟩ := a
  have hd : ((⟨#[47, 108, 115, 47, 108, 111, 99, 97, 108, 47, 97, 99, 108, 47]⟩ : ByteArray) ++ ⟨⟨l⟩⟩).data.toList = dirL ++ l := by simp [dirL]
  have hp : Lib.hasPrefix (dirL ++ l) dirL = true := by
    unfold Lib.hasPrefix; exact List.isPrefixOf_iff_prefix.2 (List.prefix_append _ _)
  have hz : ((⟨#[47, 108, 115, 47, 108, 111, 99, 97, 108, 47, 97, 99, 108, 47]⟩ : ByteArray) ++ ⟨⟨l⟩⟩).size = 14 + l.length := by
    rw [Lib.size_eq, hd]; simp [dirL]; omega
  have hr : List.take (14 + l.length - 14) (List.drop 14 (dirL ++ l)) = l := by
    rw [Nat.add_sub_cancel_left, show List.drop 14 (dirL ++ l) = l from rfl, List.take_length]
  have he : ((⟨#[47, 108, 115, 47, 108, 111, 99, 97, 108, 47, 97, 99, 108, 47]⟩ : ByteArray) ++ ⟨⟨l⟩⟩).extract 14 (14 + l.length) = ⟨⟨l⟩⟩ := by
    rw [Lib.extract_eq, hd, hr]
  unfold isAcl aclP
  rw [hz, hd, hp, hr, he, hasSl_eq]
  cases ((sls l : Int) == 0)
  · simp [Lib.toList_data]
  · simp [Lib.toList_data]

theorem isAcl_bare : isAcl ⟨#[47, 108, 115, 47, 108, 111, 99, 97, 108, 47, 97, 99, 108]⟩ = false := by decide +kernel
theorem chg_set : chg ⟨#[115, 101, 116, 45, 97, 99, 108]⟩ = false := by decide +kernel
theorem gtrans {a b c : World} (h1 : Grown a b) (h2 : Grown b c) : Grown a c :=
  ⟨World.keptBut_trans h1.1 h2.1, fun x => (h2.2.1 x).trans (h1.2.1 x), Nat.le_trans h1.2.2 h2.2.2⟩

end Go.Proofs.Qxb6612473a
