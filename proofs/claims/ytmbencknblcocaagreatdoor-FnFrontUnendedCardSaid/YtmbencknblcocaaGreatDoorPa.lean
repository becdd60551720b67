/- White space: what bytes.TrimSpace leaves. -/
import Derived.Lib.TrimUEq
import Derived.Lib.SpaceUEq
import Derived.Shelf.Spec.BytesTrimFunc
namespace Go.Wk
open Go Go.Lib

/-- Something is left when white space is taken away. -/
def nonSp (l : List UInt8) : Bool := !(stripL l.length l).isEmpty

theorem find_seq {l : List UInt8} (h : headSpace l ≠ 0) : ∃ q, spaceSeqs.find? (·.isPrefixOf l) = some q ∧ q ∈ spaceSeqs ∧ q.isPrefixOf l = true ∧ headSpace l = q.length := by
  unfold headSpace at *
  cases hf : spaceSeqs.find? (·.isPrefixOf l) with
  | none => rw [hf] at h; exact absurd rfl h
  | some q => exact ⟨q, rfl, List.mem_of_find?_eq_some hf, by simpa using List.find?_some hf, rfl⟩
theorem seq_pos : ∀ q ∈ spaceSeqs, 0 < q.length := by decide
theorem headSpace_of {l q : List UInt8} (hq : q ∈ spaceSeqs) (hp : q.isPrefixOf l = true) : headSpace l ≠ 0 := by
  unfold headSpace
  cases hf : spaceSeqs.find? (·.isPrefixOf l) with
  | none =>
    have := List.find?_eq_none.1 hf q hq
    exact absurd hp this
  | some r =>
    have := seq_pos r (List.mem_of_find?_eq_some hf)
    show r.length ≠ 0
    omega
theorem headSpace_le {l : List UInt8} : headSpace l ≤ l.length := by
  by_cases h : headSpace l = 0
  · omega
  · obtain ⟨q, _, _, hp, he⟩ := find_seq h
    rw [he]
    exact (List.isPrefixOf_iff_prefix.1 hp).length_le

theorem stripL_fuel : ∀ (f g : Nat) (l : List UInt8), l.length ≤ f → l.length ≤ g → stripL f l = stripL g l
  | 0, g, l, hf, hg => by
    have : l = [] := List.eq_nil_of_length_eq_zero (by omega)
    subst this
    cases g with
    | zero => rfl
    | succ g => simp [stripL, headSpace_nil]
  | f + 1, 0, l, hf, hg => by
    have : l = [] := List.eq_nil_of_length_eq_zero (by omega)
    subst this
    simp [stripL, headSpace_nil]
  | f + 1, g + 1, l, hf, hg => by
    unfold stripL
    split
    · rfl
    · rename_i h
      have hle := headSpace_le (l := l)
      exact stripL_fuel f g _ (by simp; omega) (by simp; omega)

theorem strip_step {l : List UInt8} (h : headSpace l ≠ 0) : stripL l.length l = stripL (l.drop (headSpace l)).length (l.drop (headSpace l)) := by
  have hle := headSpace_le (l := l)
  cases hl : l.length with
  | zero => omega
  | succ n =>
    rw [stripL, if_neg h]
    exact stripL_fuel _ _ _ (by simp; omega) (Nat.le_refl _)
theorem strip_stop {l : List UInt8} (h : headSpace l = 0) : stripL l.length l = l := by
  cases hl : l.length with
  | zero => rfl
  | succ n => rw [stripL, if_pos h]

theorem nonSp_nil : nonSp [] = false := rfl
theorem nonSp_step {l : List UInt8} (h : headSpace l ≠ 0) : nonSp l = nonSp (l.drop (headSpace l)) := by unfold nonSp; rw [strip_step h]
theorem nonSp_stop {l : List UInt8} (h : headSpace l = 0) (hl : l ≠ []) : nonSp l = true := by
  unfold nonSp; rw [strip_stop h]
  cases l with
  | nil => exact absurd rfl hl
  | cons b r => rfl

/-- White space at the end never takes all. -/
theorem stripR_nil : ∀ (f : Nat) (l : List UInt8), stripR f l = [] → l = [] ∨ headSpace l ≠ 0
  | 0, l, h => Or.inl h
  | f + 1, l, h => by
    unfold stripR at h
    split at h
    · exact Or.inl h
    · rename_i ht
      rcases stripR_nil f _ h with h1 | h1
      · -- all of l is one sequence
        right
        unfold tailSpace at ht
        cases hf : spaceSeqs.find? (·.isSuffixOf l) with
        | none => rw [hf] at ht; exact absurd rfl ht
        | some q =>
          have hq := List.mem_of_find?_eq_some hf
          have hs : q.isSuffixOf l = true := by simpa using List.find?_some hf
          have hts : tailSpace l = q.length := by unfold tailSpace; rw [hf]; rfl
          have hsuf := List.isSuffixOf_iff_suffix.1 hs
          have hlen := congrArg List.length h1
          simp [hts] at hlen
          have hle := hsuf.length_le
          have hpos := seq_pos q hq
          have : q = l := hsuf.eq_of_length (by omega)
          subst this
          exact headSpace_of hq (List.isPrefixOf_iff_prefix.2 (List.prefix_refl _))
      · right
        obtain ⟨q, _, hq, hp, _⟩ := find_seq h1
        refine headSpace_of hq (List.isPrefixOf_iff_prefix.2 ?_)
        exact (List.isPrefixOf_iff_prefix.1 hp).trans (List.take_prefix _ _)

theorem trimU_nil (l : List UInt8) : trimSpaceU l = [] ↔ stripL l.length l = [] := by
  unfold trimSpaceU
  constructor
  · intro h
    rcases stripR_nil _ _ h with h1 | h1
    · exact h1
    · exfalso
      -- what is left begins with no white space
      have : ∀ (n : Nat) (l : List UInt8), l.length ≤ n → headSpace (stripL l.length l) = 0 := by
        intro n
        induction n with
        | zero =>
          intro l hl
          have : l = [] := List.eq_nil_of_length_eq_zero (by omega)
          subst this
          exact headSpace_nil
        | succ n ih =>
          intro l hl
          by_cases hh : headSpace l = 0
          · rw [strip_stop hh]; exact hh
          · rw [strip_step hh]
            have := headSpace_le (l := l)
            exact ih _ (by simp; omega)
      exact h1 (this _ l (Nat.le_refl _))
  · intro h
    rw [h]
    cases l.length with
    | zero => rfl
    | succ n => simp [stripR, tailSpace_nil]

/-! bytes.TrimFunc at unicode.IsSpace. -/
theorem idx_eq (s : ByteArray) : ∀ (f pos : Nat), idxFuncFrom isSpaceR false s f pos = leftFrom s f pos
  | 0, _ => rfl
  | f + 1, pos => by
    unfold idxFuncFrom leftFrom
    split
    · cases h : isSpaceR (Utf8.decode s pos).1 with
      | false => simp
      | true => simpa using idx_eq s f _
    · rfl
theorem lastIdx_eq (s : ByteArray) : ∀ (f i : Nat), lastIdxFuncFrom isSpaceR false s f i = rightFrom s f i
  | 0, _ => rfl
  | f + 1, i => by
    unfold lastIdxFuncFrom rightFrom
    split
    · cases h : isSpaceR (decodeLastL (s.data.toList.take i)).1 with
      | false => simp
      | true => simpa using lastIdx_eq s f _
    · rfl

theorem rightEnd_eq (s : ByteArray) : rightEndF isSpaceR s = rightEnd s := by
  unfold rightEndF rightEnd
  rw [show lastIdxFunc isSpaceR false s = rightIdx s from lastIdx_eq s _ _]

theorem trimCut_len (l : List UInt8) (b off cap : Nat) : ∃ a m c, Go.Proofs.trimCut isSpaceR ⟨⟨l⟩⟩ b off cap = .slice a m c ∧ (0 < m ↔ nonSp l = true) := by
  unfold Go.Proofs.trimCut
  have hI : idxFunc isSpaceR false ⟨⟨l⟩⟩ = leftIdx ⟨⟨l⟩⟩ := idx_eq _ _ _
  rw [hI]
  have hg : (goTrim ⟨⟨l⟩⟩).data.toList = trimSpaceU l := by rw [goTrim_eq, trimSpaceU_eq]
  have hns : nonSp l = true ↔ trimSpaceU l ≠ [] := by
    unfold nonSp
    rw [Ne, trimU_nil]
    cases stripL l.length l <;> simp
  rw [hns, ← hg]
  unfold goTrim goTrimLeft goTrimRight
  by_cases h : leftIdx ⟨⟨l⟩⟩ = -1
  · rw [if_pos h, if_pos h]
    refine ⟨_, _, _, rfl, ?_⟩
    constructor
    · intro h; omega
    · intro h
      exact absurd (by rfl) h
  · rw [if_neg h, if_neg h]
    refine ⟨_, _, _, rfl, ?_⟩
    rw [rightEnd_eq]
    have hr : leftIdx ⟨⟨l⟩⟩ = -1 ∨ (((0 : Nat) : Int) ≤ leftIdx ⟨⟨l⟩⟩ ∧ leftIdx ⟨⟨l⟩⟩ < (ByteArray.mk ⟨l⟩).size) := leftFrom_range ⟨⟨l⟩⟩ _ 0
    have hr := hr.resolve_left h
    generalize hs : (ByteArray.mk ⟨l⟩).extract (leftIdx ⟨⟨l⟩⟩).toNat (ByteArray.mk ⟨l⟩).size = s
    have hsz : 0 < s.size := by
      rw [← hs]
      simp
      omega
    constructor
    · intro h1 h2
      have h3 : (s.extract 0 (rightEnd s)).size = 0 := by
        show (s.extract 0 (rightEnd s)).data.size = 0
        rw [← Array.length_toList, h2]
        rfl
      rw [ByteArray.size_extract] at h3
      omega
    · intro h1
      rcases Nat.eq_zero_or_pos (rightEnd s) with h2 | h2
      · exfalso
        apply h1
        rw [h2]
        exact List.eq_nil_of_length_eq_zero (by simp)
      · exact h2
end Go.Wk
